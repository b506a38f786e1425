/-
  THE TOLD AND TIED CARD OF 'sheets.LawS5494CWhole': the walks of YbulkditiFmtLaw lifted to the row, closed by the builder for a row that is told and tied. Turned from the guide's worked B64badTold, CapsTied.
-/
import Derived.Test.YbulkditiFmtLaw
import Derived.Test.YbulkditiFmtTie
import Derived.Test.YbulkditiFmtCards
import Derived.ProofKit
import Derived.Stop.JoinedAt
import Derived.Stop.Texts
import Derived.Stop.JoinedTold
import Derived.Lib.LaidTab
import Derived.Lib.LaidIn
import Derived.SevenTiedAt
import Derived.SliceStrings
import Derived.ShutString
import Derived.Carry
import Derived.ChangeOld
import Derived.OpenShut
import Derived.Stop.LaidErr
import Derived.Below
namespace Go.Proofs.YbulkditiFmt
open Go.ChangeShapes Go.WideShapes Go.ChangeAt Go.RowKit Go.Kit
open Go.ChangeMaps (open_string shut_string)
open Go.Extern.Stop Go.Stop Go.Extern

theorem own : ownKnob Ybaf.prog.godebug = none := by kernel_rfl
theorem laidOut : laidOutB Ybaf.pinned.checked.prog = true := by kernel_rfl
theorem stops : Ybaf.pinned.checked.prog.stops = ["fmt.Sprintf"] := by kernel_rfl
theorem stopKnobs : Ybaf.pinned.checked.prog.stopKnobs = [] := by kernel_rfl
theorem quiet (os : Os) : Stop.quiet Ybaf.pinned.checked.prog os := by
  intro k hk
  rw [stopKnobs] at hk
  cases hk
theorem gT : Ybaf.prog.globalNamed Ybaf.powName = some 0 := by kernel_rfl
theorem gTType : (Ybaf.prog.globals[0]?).map (·.type) = some 48 := by kernel_rfl

set_option maxHeartbeats 800000 in
set_option maxRecDepth 100000 in
/-- More than 2^20 columns: true at once. -/
theorem law_big (w : World) (nm : ByteArray) (line k : Int) (a : Option Addr) (n c : Nat) (hn : 1048576 < n) :
    Calls Ybaf.prog 3 #[.string nm, .int .i64 line, .int .i64 k, .slice a n c] w fun e w' => e = .returned (.bool true) ∧ Below w.heap.size w w' := by
  have hni : (1048576 : Int) < (n : Int) := by omega
  go_enter Ybaf.func3, Ybaf.ntmps3
  go_wp2_with fail
  go_ret
  exact ⟨rfl, Below.refl _ _⟩

/-- What the walk is told of a []string that came in. -/
def IsStrs (w : World) (a : Option Addr) (len cap : Nat) (ss : List ByteArray) : Prop :=
  (a = none ∧ len = 0 ∧ cap = 0 ∧ ss = []) ∨ ∃ x, a = some x ∧ len ≤ ss.length ∧ ∀ i, i < ss.length → w.cell? (x.add i) = some (.string (ss.getD i ByteArray.empty))

/-- THE WALK, whatever the input. -/
theorem walk (F : Interp) (w : World) (nm : ByteArray) (line k : Int) (a : Option Addr) (n c : Nat) (ss : List ByteArray) (h0 : -9223372036854775808 ≤ k) (hs : IsStrs w a n c ss) (hF : F.answers w.tape) (htab : Lib.TabIs Ybaf.prog w Ybaf.powName .u64 Lib.pow10Tab) :
    Calls Ybaf.prog 3 #[.string nm, .int .i64 line, .int .i64 k, .slice a n c] w fun e w' => e = .returned (.bool true) ∧ Below w.heap.size w w' := by
  by_cases hn : 1048576 < n
  · exact law_big w nm line k a n c hn
  have hn' : n ≤ 1048576 := by omega
  rcases hs with ⟨rfl, rfl, rfl, rfl⟩ | ⟨x, rfl, hl, hc⟩
  · by_cases hk : k < 0
    · obtain ⟨m, hm⟩ : ∃ m : Nat, -(k + 1) = (m : Int) := ⟨(-(k + 1)).toNat, by omega⟩
      exact law_nil_neg F w nm line m k hk h0 hm hF htab
    · obtain ⟨m, rfl⟩ : ∃ m : Nat, k = (m : Int) := ⟨k.toNat, by omega⟩
      exact law_nil F w nm line m hF htab
  by_cases hz : n = 0
  · subst hz
    by_cases hk : k < 0
    · obtain ⟨m, hm⟩ : ∃ m : Nat, -(k + 1) = (m : Int) := ⟨(-(k + 1)).toNat, by omega⟩
      exact law_zero_neg F w nm line m c x k hk h0 hm hF htab
    · obtain ⟨m, rfl⟩ : ∃ m : Nat, k = (m : Int) := ⟨k.toNat, by omega⟩
      exact law_zero F w nm line m c x hF htab
  obtain ⟨b, off, spot⟩ := x
  have hspot : spot = none := by simpa [Addr.add] using World.cell?_spot (hc 0 (by omega))
  subst hspot
  have hcell : ∀ j, j < ss.length → w.cell? ⟨b, off + j, none⟩ = some (.string (ss.getD j ByteArray.empty)) := fun j hj => by rw [← addp]; exact hc j hj
  have hlt : b < w.heap.size := by
    have h1 := hcell 0 (by omega)
    simp only [World.cell?] at h1
    rcases hx : w.heap[b]? with _ | o
    · simp [hx] at h1
    · exact (Array.getElem?_eq_some_iff.1 hx).1
  by_cases hk : k < 0
  · obtain ⟨m, hm⟩ : ∃ m : Nat, -(k + 1) = (m : Int) := ⟨(-(k + 1)).toNat, by omega⟩
    by_cases hmn : m < n
    · exact law_lt_neg F w nm line m n b off c ss hmn hn' hl k hk h0 hm hF hcell hlt
    · exact law_ge_neg F w nm line m n b off c ss (by omega) hn' hl k hk h0 hm hF htab hcell hlt
  · obtain ⟨m, rfl⟩ : ∃ m : Nat, k = (m : Int) := ⟨k.toNat, by omega⟩
    by_cases hmn : m < n
    · exact law_lt F w nm line m n b off c ss hmn hn' hl hF hcell hlt
    · exact law_ge F w nm line m n b off c ss (by omega) hn' hl hF htab hcell hlt

theorem cells9 : Ybaf.prog.cellsOf 9 = 1 := by kernel_rfl

/-- A table's cells laid into the variable g. -/
def put (h : Array Obj) (g : Nat) (cs : Array Value) : Array Obj := h.modify g fun
  | .cells _ t frozen => .cells cs t frozen
  | o => o

def tabCells (k : IntKind) : DataW Unit → Array Value
  | .agg xs => (xs.map fun x => match x with | .lit (.int _ z) => Value.int k z | _ => Value.int k 0).toArray
  | _ => #[]

set_option maxRecDepth 1000000 in
theorem laid_met (os : Os) (args : Array Value) :
    laidMet Ybaf.prog Rows.lawS5494CWholeRow.laid (({ World.holding Ybaf.prog os ⟨#[], #[], []⟩ with heap := put (put (put (World.holding Ybaf.prog os ⟨#[], #[], []⟩).heap 0 (tabCells .u64 Rows.laid_internal_strconv_uint64pow10)) 1 (tabCells .u8 Rows.laid_math_bits_deBruijn32tab)) 2 (tabCells .u8 Rows.laid_math_bits_deBruijn64tab) } : World).forCall (fun _ _ => 0) ⟨#[], args, []⟩).memory :=
  (LaidIn.of_run [1, 2, 0] 70 (by kernel_rfl) (by kernel_rfl) (by kernel_rfl) (by kernel_rfl)).met

set_option maxRecDepth 1000000 in
set_option maxHeartbeats 1600000 in
theorem lifted (os : Os) (started : os.Started) (H : Type) (enc : TypeId × Value → H) :
    ReturnsInTold none {} Ybaf.checked os 3 .any Input.okWide ((OpenSpec.ofChange Rows.lawS5494CWholeSpec).preRow enc Ybaf.prog Ybaf.f3 [] false Rows.lawS5494CWholeRow.laid) (fun F => ((OpenSpec.ofChange Rows.lawS5494CWholeSpec).at F).post enc Ybaf.prog Ybaf.f3 false true false false) (aloneAtReturn Ybaf.prog) nothingAlways := by
  refine returnsInTold_of_row (C := Ybaf.checked) (s := OpenSpec.ofChange Rows.lawS5494CWholeSpec) (by kernel_rfl) own started (by kernel_rfl) Ybaf.func3
    (OpenSpec.witness_stopped_at (enc := enc) (C := Ybaf.checked) false ({ World.holding Ybaf.prog os ⟨#[], #[], []⟩ with heap := put (put (put (World.holding Ybaf.prog os ⟨#[], #[], []⟩).heap 0 (tabCells .u64 Rows.laid_internal_strconv_uint64pow10)) 1 (tabCells .u8 Rows.laid_math_bits_deBruijn32tab)) 2 (tabCells .u8 Rows.laid_math_bits_deBruijn64tab) } : World)
      #[.string ⟨#[]⟩, .int .i64 0, .int .i64 0, .slice none 0 0] rfl (by kernel_rfl) (by kernel_rfl) (by kernel_rfl)
      (OpenSpec.preRow_of_B rfl 8 (by kernel_rfl) (by kernel_rfl) (laid_met os _))) ?_
  intro F W base args ds gs before _ hF hval0 hW _ _ _ hL _
  have hval : ∀ (j : Nat) t v, Ybaf.f3.params[j]? = some t → args[j]? = some v → Value.okWide Ybaf.prog W .any base t v := hval0
  have hW' := hW
  obtain ⟨p, q, hA0, hV, rfl, hfz, hnd⟩ := hW
  have hA : DataW.TrodAll enc Ybaf.prog W 0 (fun _ => true) true Ybaf.f3.params.toList args.toList ds p := hA0
  rw [Ybaf.params3] at hA hval
  obtain ⟨v0, vs0, d0, ds0, p0, q0, hargs, rfl, rfl, h0, r0⟩ := trodAll_cons hA
  obtain ⟨v1, vs1, d1, ds1, p1, q1, rfl, rfl, rfl, h1, r1⟩ := trodAll_cons r0
  obtain ⟨v2, vs2, d2, ds2, p2, q2, rfl, rfl, rfl, h2, r2⟩ := trodAll_cons r1
  obtain ⟨v3, vs3, d3, ds3, p3, q3, rfl, rfl, rfl, h3, r3⟩ := trodAll_cons r2
  obtain ⟨rfl, rfl, rfl⟩ := trodAll_nil r3
  obtain rfl : args = #[v0, v1, v2, v3] := by cases args; simp_all
  obtain ⟨rfl, rfl⟩ := trodVars_none hV
  obtain ⟨nm, rfl, rfl, rfl, hs0⟩ := open_string Ybaf.underlying9 (hval 0 9 v0 rfl rfl) h0
  obtain ⟨line, rfl, rfl, rfl, w1⟩ := open_int Ybaf.underlying3 (hval 1 3 v1 rfl rfl) h1
  obtain ⟨k, rfl, rfl, rfl, w2⟩ := open_int Ybaf.underlying3 (hval 2 3 v2 rfl rfl) h2
  obtain ⟨a, len, cap, rfl⟩ := okWide_slice Ybaf.underlying22 (hval 3 22 v3 rfl rfl)
  have k3 := h3
  have lt3 : ∀ x ∈ p3, x.block < W.heap.size := by obtain ⟨m, hm⟩ := k3; exact DataW.trod_lt m _ _ _ hm
  obtain ⟨ss, hss⟩ : ∃ ss, IsStrs W a len cap ss := by
    obtain ⟨fuel, hf⟩ := h3
    rcases open_strings Ybaf.underlying22 Ybaf.underlying9 cells9 hf with ⟨hcs, _⟩ | ⟨x, l, c, ss, hcs, _, hl, hm, hz, _, hcell, _⟩
    · simp [Value.cells] at hcs
      obtain ⟨rfl, rfl, rfl⟩ := hcs
      exact ⟨[], .inl ⟨rfl, rfl, rfl, rfl⟩⟩
    · simp [Value.cells] at hcs
      obtain ⟨rfl, rfl, rfl⟩ := hcs
      simp only [if_true] at hz
      exact ⟨ss, .inr ⟨_, rfl, by omega, hcell⟩⟩
  have hb2 : -9223372036854775808 ≤ k := (bounds_i64 w2).1
  have htab : Lib.TabIs Ybaf.prog W Ybaf.powName .u64 Lib.pow10Tab :=
    Lib.tabIs_of_head gT gTType Ybaf.underlying48 Ybaf.underlying41 (by kernel_rfl) (by kernel_rfl) (show laidMet Ybaf.prog ((Ybaf.powName, Lib.tabData .u64 Lib.pow10Tab) :: []) W from laidMet.tail (laidMet.tail hL))
  clear hA0 hval0
  refine (walk F.told W nm line k a len cap ss hb2 hss hF htab).mono fun e W' ⟨he, bel⟩ => ?_
  subst he
  exact ⟨_, rfl, _, _, _, [], _, [], hW', trodAll_mk1 (shut_bool Ybaf.underlying4 _),
    (trodAll_cons_mk (shut_string Ybaf.underlying9 hs0) (trodAll_cons_mk (shut_int Ybaf.underlying3 w1) (trodAll_cons_mk (shut_int Ybaf.underlying3 w2) (trodAll_cons_mk (Below.trod laidOut (by kernel_rfl) (of_decide_eq_true (by kernel_rfl)) k3 bel lt3) trodAll_mk0)))), rfl, bel.frame _, fun h => by cases h⟩

/-- ████ THE STATEMENT ████ -/
theorem proved : Rows.LawS5494CWholeToldSaid :=
  Claim7.holds_of_told_tied_any_at .later 3 Ybaf.f3 "fmt.Sprintf" [] [] _ _ _ _ _ (by kernel_rfl) rfl rfl rfl laidOut (by kernel_rfl) rfl ⟨rfl, rfl, rfl, rfl, rfl, rfl, rfl⟩ rfl rfl (by kernel_rfl) (by kernel_rfl) Ybaf.func3 (by kernel_rfl)
    (of_decide_eq_true (by kernel_rfl)) (by unfold Func.isWrapper; first | (rw [if_pos (by decide +kernel)]; kernel_rfl) | (rw [if_neg (by decide +kernel)]; exact ⟨rfl, rfl⟩)) stops.symm rfl stopKnobs.symm (by kernel_rfl)
    (by kernel_rfl) (by kernel_rfl) (by kernel_rfl) (by kernel_rfl) (by kernel_rfl) (by kernel_rfl) (by kernel_rfl) (by kernel_rfl) (by kernel_rfl) rfl (by kernel_rfl) rfl rfl
    rfl rfl
    rfl (by kernel_rfl) (by kernel_rfl) (by kernel_rfl) (by decide) (by kernel_rfl) lawS5494CWhole_row_tie
    (OpenClaim.moreEntering_of (by kernel_rfl) (by kernel_rfl) (by kernel_rfl) (by kernel_rfl) (by kernel_rfl) (by kernel_rfl) (by kernel_rfl) (by kernel_rfl) (by kernel_rfl) (by kernel_rfl))
    ⟨_, WideRow.started_initial, quiet _⟩
    (fun os started _ H enc _ => lifted os started H enc)
#print axioms proved
end Go.Proofs.YbulkditiFmt
