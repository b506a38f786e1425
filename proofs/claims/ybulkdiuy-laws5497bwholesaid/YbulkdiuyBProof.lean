/-
  THE PROOF OF 'Rows.LawS5497BWholeSaid' ('example.com/librota/librota/internal/sim.LawS5497BWhole'): the row's step after the shells' way (proof-skeleton.mjs, third state), turned to a slice of structs and to the form's own reach (no sum of lengths wraps); the walk is YbulkdiuyBTop's 'main_any'.
-/
import Derived.Test.YbulkdiuyBTop
import Derived.WalkKit
import Derived.ProofKit
import Derived.OpenShut
import Derived.ShutString
import Derived.ChangeOld
import Derived.Below
import Derived.SizedLaws
import Derived.Deep.SlicePairs
namespace Go.Proofs.Ybulkdiuy.lawS5497BWhole
open Go.ChangeShapes Go.WideShapes Go.ChangeAt Go.RowKit
open Go.ChangeMaps (open_string shut_string)
set_option linter.unusedVariables false

theorem own : ownKnob Yba.prog.godebug = none := by kernel_rfl
theorem laidOut : laidOutB Yba.prog = true := by kernel_rfl
theorem cells2 : Yba.prog.cellsOf 2 = 1 := by kernel_rfl
theorem cells111 : Yba.prog.cellsOf 111 = 2 := by kernel_rfl
theorem bytes2 : Yba.prog.bytesOf 2 = 8 := by kernel_rfl
theorem bytes111 : Yba.prog.bytesOf 111 = 16 := by kernel_rfl

/-! ### THE WALK: more than 2^20 elements in all: at once; else YbulkdiuyBTop's 'main_any'. -/
set_option maxRecDepth 1000000 in
set_option maxHeartbeats 800000 in
theorem many (now : Int) (a1 a2 a3 : Option Addr) (n1 c1 n2 c2 n3 c3 : Nat) (w : World) (h : 1048576 < n1 + n2 + n3) (m1 : n1 ≤ 17592186043904) (m2 : n2 ≤ 17592186043904) (m3 : n3 ≤ 17592186043904) :
    Calls Yba.prog 4 #[.int .i64 now, .slice a1 n1 c1, .slice a2 n2 c2, .slice a3 n3 c3] w fun e w' => e = .returned (.bool true) ∧ Below w.heap.size w w' := by
  have hh : (1048576 : Int) < (n1 : Int) + n2 + n3 := by omega
  have m1' : (n1 : Int) ≤ 17592186043904 := by omega
  have m2' : (n2 : Int) ≤ 17592186043904 := by omega
  have m3' : (n3 : Int) ≤ 17592186043904 := by omega
  go_enter Yba.func4, Yba.ntmps4
  go_wp2_with fail
  go_ret
  exact ⟨rfl, Below.refl _ _⟩

theorem walk (now : Int) (a1 a2 a3 : Option Addr) (n1 c1 n2 c2 n3 c3 : Nat) (z1 z2 rb re : Nat → Int) (w : World) (h1 : IsInts w a1 n1 z1) (h2 : IsInts w a2 n2 z2) (h3 : IsRes w a3 n3 rb re)
    (m1 : n1 ≤ 17592186043904) (m2 : n2 ≤ 17592186043904) (m3 : n3 ≤ 17592186043904) :
    Calls Yba.prog 4 #[.int .i64 now, .slice a1 n1 c1, .slice a2 n2 c2, .slice a3 n3 c3] w fun e w' => e = .returned (.bool true) ∧ Below w.heap.size w w' := by
  by_cases h : 1048576 < n1 + n2 + n3
  · exact many now a1 a2 a3 n1 c1 n2 c2 n3 c3 w h m1 m2 m3
  · exact main_any w now a1 a2 a3 n1 c1 n2 c2 n3 c3 z1 z2 rb re (by omega) h1 h2 h3

/-! ### THE ARGUMENTS OPENED -/
theorem view_ints {H : Type} {enc : TypeId × Value → H} {W : World} {a : Option Addr} {len cap : Nat} {d : DataW H} {p : List MemPlace} (h : DataW.Trod enc Yba.prog W 0 (fun _ => true) true 79 (.slice a len cap) d p) :
    (∃ z, IsInts W a len z) ∧ (len = 0 ∨ ∃ el sp, d = .slice el sp ∧ el.length = len) := by
  obtain ⟨fuel, hf⟩ := h
  rcases open_ints Yba.underlying79 Yba.underlying2 cells2 hf with ⟨hcs, _⟩ | ⟨x, l, c, zs, hcs, _, hl, hm, hz, hx, hcell, _⟩
  · simp [Value.cells] at hcs
    obtain ⟨rfl, rfl, rfl⟩ := hcs
    exact ⟨⟨fun _ => 0, .inl rfl⟩, .inl rfl⟩
  · simp [Value.cells] at hcs
    obtain ⟨rfl, rfl, rfl⟩ := hcs
    simp only [Prod.mk.injEq] at hx
    simp only [if_true] at hz
    refine ⟨⟨fun j => zs.getD j 0, ?_⟩, .inr ⟨_, _, hx.1, by simp [lits]; omega⟩⟩
    by_cases h0 : len = 0
    · exact .inl h0
    · obtain ⟨b, off, spot⟩ := x
      have h1 := hcell 0 (by omega)
      have hspot : spot = none := by simpa [Addr.add] using World.cell?_spot h1
      subst hspot
      exact .inr ⟨b, off, rfl, fun j hj => by rw [← add_plain]; exact hcell j (by omega)⟩

theorem view_res {H : Type} {enc : TypeId × Value → H} {W : World} {a : Option Addr} {len cap : Nat} {d : DataW H} {p : List MemPlace} (h : DataW.Trod enc Yba.prog W 0 (fun _ => true) true 80 (.slice a len cap) d p) :
    (∃ rb re, IsRes W a len rb re) ∧ (len = 0 ∨ ∃ el sp, d = .slice el sp ∧ el.length = len) := by
  obtain ⟨fuel, hf⟩ := h
  rcases Go.Deep.open_slice_pairs Yba.underlying80 Yba.underlying111 cells111 rfl rfl cells2 cells2 hf with ⟨hcs, _⟩ | ⟨x, l, c, m, n, V0, V1, D0, D1, P0, P1, hcs, _, hl, hm, hmm, hx, hcell⟩
  · simp [Value.cells] at hcs
    obtain ⟨rfl, rfl, rfl⟩ := hcs
    exact ⟨⟨fun _ => 0, fun _ => 0, .inl rfl⟩, .inl rfl⟩
  · simp [Value.cells] at hcs
    obtain ⟨rfl, rfl, rfl⟩ := hcs
    simp only [Prod.mk.injEq] at hx
    simp only [if_true] at hmm
    refine ⟨?_, .inr ⟨_, _, hx.1, by simp⟩⟩
    by_cases h0 : len = 0
    · exact ⟨fun _ => 0, fun _ => 0, .inl h0⟩
    · obtain ⟨b, off, spot⟩ := x
      have h1 := (hcell 0 (by omega)).1
      have hspot : spot = none := by simpa [Addr.add] using World.cell?_spot h1
      subst hspot
      have each : ∀ i, i < len → ∃ q : Int × Int, W.cell? ⟨b, off + i * 2, none⟩ = some (.int .i64 q.1) ∧ W.cell? ⟨b, off + i * 2 + 1, none⟩ = some (.int .i64 q.2) := by
        intro i hi
        obtain ⟨e0, e1, t0, t1⟩ := hcell i (by omega)
        obtain ⟨y0, hy0, _⟩ := DataW.trod_int Yba.underlying2 t0
        obtain ⟨y1, hy1, _⟩ := DataW.trod_int Yba.underlying2 t1
        simp at hy0 hy1
        rw [add_plain] at e0 e1
        rw [hy0] at e0
        rw [hy1] at e1
        exact ⟨(y0, y1), e0, e1⟩
      obtain ⟨q, hq⟩ := Go.Deep.choose_lt each
      exact ⟨fun i => (q i).1, fun i => (q i).2, .inr ⟨b, off, rfl, hq⟩⟩

/-! ### THE ROW's STEP -/
set_option maxRecDepth 100000 in
theorem lifted (os : Os) (started : os.Started) (H : Type) (enc : TypeId × Value → H) :
    ReturnsInHanded {} Yba.checked os 4 .any (Rows.lawS5497BWholeSpec.pre6 enc Yba.prog Yba.f4 Rows.lawS5497BWholeRow.domain false) (Rows.lawS5497BWholeSpec.post enc Yba.prog Yba.f4 false true false false) := by
  refine returnsInHanded_of_change_sized (C := Yba.checked) own started (by kernel_rfl) Yba.func4
    (ChangeSpec.witness6 (enc := enc) (C := Yba.checked) false ⟨#[], #[.int .i64 0, .slice none 0 0, .slice none 0 0, .slice none 0 0], []⟩ 8 (by kernel_rfl) (by kernel_rfl) (by kernel_rfl) (by kernel_rfl)) ?_
  intro W base args ds gs before hval0 hW hcnd hsz0 _
  have hval : ∀ (j : Nat) t v, Yba.f4.params[j]? = some t → args[j]? = some v → Value.okWide Yba.prog W .any base t v := hval0
  have hsz : (DataW.weightsEach Yba.prog (Yba.f4.params.toList ++ Rows.lawS5497BWholeSpec.plain.varTypes Yba.prog) (ds ++ gs)).all (· ≤ reachBytes) = true := hsz0
  have hW' := hW
  obtain ⟨p, q, hA0, hV, rfl, hfz, hnd⟩ := hW
  have hA : DataW.TrodAll enc Yba.prog W 0 (fun _ => true) true Yba.f4.params.toList args.toList ds p := hA0
  rw [Yba.params4] at hA hval hsz
  obtain ⟨v0, vs0, d0, ds0, p0, q0, hargs, rfl, rfl, h0, r0⟩ := trodAll_cons hA
  obtain ⟨v1, vs1, d1, ds1, p1, q1, rfl, rfl, rfl, h1, r1⟩ := trodAll_cons r0
  obtain ⟨v2, vs2, d2, ds2, p2, q2, rfl, rfl, rfl, h2, r2⟩ := trodAll_cons r1
  obtain ⟨v3, vs3, d3, ds3, p3, q3, rfl, rfl, rfl, h3, r3⟩ := trodAll_cons r2
  obtain ⟨rfl, rfl, rfl⟩ := trodAll_nil r3
  obtain rfl : args = #[v0, v1, v2, v3] := by cases args; simp_all
  obtain ⟨rfl, rfl⟩ := trodVars_none hV
  obtain ⟨a0, rfl, rfl, rfl, w0⟩ := open_int Yba.underlying2 (hval 0 2 v0 rfl rfl) h0
  obtain ⟨a1, len1, cap1, rfl⟩ := okWide_slice Yba.underlying79 (hval 1 79 v1 rfl rfl)
  have k1 := h1
  have lt1 : ∀ x ∈ p1, x.block < W.heap.size := by obtain ⟨m, hm⟩ := k1; exact DataW.trod_lt m _ _ _ hm
  obtain ⟨⟨z1, i1⟩, s1⟩ := view_ints h1
  obtain ⟨a2, len2, cap2, rfl⟩ := okWide_slice Yba.underlying79 (hval 2 79 v2 rfl rfl)
  have k2 := h2
  have lt2 : ∀ x ∈ p2, x.block < W.heap.size := by obtain ⟨m, hm⟩ := k2; exact DataW.trod_lt m _ _ _ hm
  obtain ⟨⟨z2, i2⟩, s2⟩ := view_ints h2
  obtain ⟨a3, len3, cap3, rfl⟩ := okWide_slice Yba.underlying80 (hval 3 80 v3 rfl rfl)
  have k3 := h3
  have lt3 : ∀ x ∈ p3, x.block < W.heap.size := by obtain ⟨m, hm⟩ := k3; exact DataW.trod_lt m _ _ _ hm
  obtain ⟨⟨rb, re, i3⟩, s3⟩ := view_res h3
  have m1 : len1 ≤ 17592186043904 := by
    rcases s1 with s | ⟨el, sp, e, hl⟩
    · omega
    · have := sized_slice hsz (j := 1) (t := 79) (e := 2) rfl (by rw [← e]; rfl) Yba.underlying79
      rw [bytes2] at this
      simp only [reachBytes] at this
      omega
  have m2 : len2 ≤ 17592186043904 := by
    rcases s2 with s | ⟨el, sp, e, hl⟩
    · omega
    · have := sized_slice hsz (j := 2) (t := 79) (e := 2) rfl (by rw [← e]; rfl) Yba.underlying79
      rw [bytes2] at this
      simp only [reachBytes] at this
      omega
  have m3 : len3 ≤ 17592186043904 := by
    rcases s3 with s | ⟨el, sp, e, hl⟩
    · omega
    · have := sized_slice hsz (j := 3) (t := 80) (e := 111) rfl (by rw [← e]; rfl) Yba.underlying80
      rw [bytes111] at this
      simp only [reachBytes] at this
      omega
  clear hA0 hval0
  refine (walk a0 a1 a2 a3 len1 cap1 len2 cap2 len3 cap3 z1 z2 rb re W i1 i2 i3 m1 m2 m3).mono fun e W' ⟨he, bel⟩ => ?_
  subst he
  exact ⟨_, rfl, _, _, _, [], _, [], hW', trodAll_mk1 (shut_bool Yba.underlying4 _), (trodAll_cons_mk (shut_int Yba.underlying2 w0) (trodAll_cons_mk (Below.trod laidOut (by kernel_rfl) (of_decide_eq_true (by kernel_rfl)) k1 bel lt1) (trodAll_cons_mk (Below.trod laidOut (by kernel_rfl) (of_decide_eq_true (by kernel_rfl)) k2 bel lt2) (trodAll_cons_mk (Below.trod laidOut (by kernel_rfl) (of_decide_eq_true (by kernel_rfl)) k3 bel lt3) trodAll_mk0)))), rfl, bel.frame _, fun h => by cases h⟩

theorem over : Rows.lawS5497BWholeRow.holds Yba.pinned (OpenSpec.ofChange Rows.lawS5497BWholeSpec) :=
  OpenClaim.holds_of_wide 4 Yba.f4 rfl rfl rfl rfl rfl rfl rfl ⟨rfl, rfl, rfl, rfl, rfl⟩ rfl rfl rfl rfl rfl (by kernel_rfl) Yba.func4 (by kernel_rfl)
    (of_decide_eq_true (by kernel_rfl)) (by unfold Func.isWrapper; first | (rw [if_pos (by decide +kernel)]; kernel_rfl) | (rw [if_neg (by decide +kernel)]; exact ⟨rfl, rfl⟩))
    (fun os started H enc _ => lifted os started H enc)

/-- ████ THE STATEMENT ████ -/
theorem proved : Rows.LawS5497BWholeSaid := over
#print axioms proved
end Go.Proofs.Ybulkdiuy.lawS5497BWhole
