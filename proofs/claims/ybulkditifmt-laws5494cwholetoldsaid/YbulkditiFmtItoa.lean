import Derived.Test.YbulkditiFmtRows
import Derived.WalkKit
import Derived.WalkLawsBesides
import Derived.Deep.LoopGhost
import Derived.Lib.ItoaNum
import Derived.Laws.AppendOwnNone
namespace Go.Proofs.YbulkditiFmt
open Go.RowKit

def dc (ds : List UInt8) : List Value := ds.map fun b => Value.int .u8 (b.toNat : Int)

theorem info5 : (Ybaf.prog.info? 5).map (fun i => (i.zero, i.size, i.bytes)) = some (some (.int .u8 0), 1, 1) := by kernel_rfl

theorem dd_step (u : Nat) (hu : 0 < u) (ds : List UInt8) :
    (if u / 10 = 0 then [] else Lib.decDigits (u / 10)) ++ (UInt8.ofNat (48 + u % 10) :: ds) = Lib.decDigits u ++ ds := by
  rw [Lib.decDigits.eq_def u]
  by_cases h : u < 10
  · rw [dif_pos h, if_pos (by omega), show u % 10 = u by omega]
    rfl
  · rw [dif_neg h, if_neg (by omega)]
    simp

theorem dig_toNat (u : Nat) : ((UInt8.ofNat (48 + u % 10)).toNat : Int) = 48 + (u : Int) % 10 := by
  have h : (UInt8.ofNat (48 + u % 10)).toNat = 48 + u % 10 := by
    simp [UInt8.toNat_ofNat]
    omega
  rw [h]
  omega

theorem addp (b o j : Nat) : (⟨b, o, none⟩ : Addr).add j = ⟨b, o + j, none⟩ := by unfold Addr.add; split <;> simp_all

theorem own_news {w : World} {base g n cap : Nat} {e : TypeId} {xs : List Value} (h : w.ownsRow base e 1 (.slice (some ⟨g, 0, none⟩) n cap) n xs) (o : Obj) (j : Nat) (u : Value) (hj : xs[j]? = some u) :
    (w.alloc o).cell? ((⟨g, 0, none⟩ : Addr).add j) = some u := by
  have hl : xs.length = n * 1 := h.1
  have hlt : j < xs.length := (List.getElem?_eq_some_iff.1 hj).1
  have hc := h.cellAt j (by omega)
  have hb : g < w.heap.size := by
    rcases h.2 with ⟨h', _⟩ | ⟨g', cap', cur, h', _, hg, _⟩
    · simp at h'
    · simp at h'
      obtain ⟨rfl, _⟩ := h'
      obtain ⟨hlt, _⟩ := Array.getElem?_eq_some_iff.1 hg
      exact hlt
  have e1 : (⟨g, 0, none⟩ : Addr).add j = ⟨g, j, none⟩ := by rw [addp, Nat.zero_add]
  rw [e1, World.cell?_of_block (w := w) (Below.heap_alloc w o g hb), hc, hj]

theorem dc_one (ds : List UInt8) : ∀ u ∈ dc ds, u.oneCell' = true := by
  intro u hu
  simp only [dc, List.mem_map] at hu
  obtain ⟨b, _, rfl⟩ := hu
  rfl

set_option maxHeartbeats 800000 in
theorem citoa_any (v0 : Nat) (hv : 0 < v0) (hv2 : v0 ≤ 1048577) (w : World) :
    Calls Ybaf.prog 6 #[.int .i64 (v0 : Int)] w fun e w' => e = .returned (.string ⟨(Lib.itoa (v0 : Int)).toArray⟩) ∧ Below w.heap.size w w' := by
  obtain ⟨i0, hi, hz0, hz1, hz2⟩ := info_parts info5
  have hvz : ¬ v0 = 0 := by omega
  have hv' : (0 : Int) < (v0 : Int) := by omega
  go_enter Ybaf.func6, Ybaf.ntmps6
  go_wp2_with fail
  go_loopg [0, 3] v0 (fun g vv bv wr => ∃ (u : Nat) (ds : List UInt8), vv = .int .i64 (u : Int) ∧ u ≤ g ∧ ds.length + u ≤ v0 ∧ Hid ((if u = 0 then [] else Lib.decDigits u) ++ ds = Lib.decDigits v0) ∧
    wr.ownsRow w.heap.size 5 1 bv ds.length (dc ds) ∧ Below w.heap.size w wr)
  case atStart => exact ⟨v0, [], rfl, Nat.le_refl _, by simp, by show (if v0 = 0 then [] else _) ++ [] = _; rw [if_neg (by omega)]; simp, World.ownsRow_nil _ _ _ _, Below.refl _ _⟩
  case round =>
    obtain ⟨u, ds, rfl, hgu, hl, hD, hown, hb⟩ := hrel
    have hbs := hb.size
    by_cases hu : 0 < u
    · have HST : Hid ((if u / 10 = 0 then [] else Lib.decDigits (u / 10)) ++ (UInt8.ofNat (48 + u % 10) :: ds) = Lib.decDigits u ++ ds) := dd_step u hu ds
      have HD2 : Hid ((if u / 10 = 0 then [] else Lib.decDigits (u / 10)) ++ (UInt8.ofNat (48 + u % 10) :: ds) = Lib.decDigits v0) := by
        have h1 := HST.out
        have h2 := hD.out
        rw [if_neg (by omega)] at h2
        exact h1.trans h2
      clear HST hD
      have hui : (0 : Int) < (u : Int) := by omega
      have HC : Hid (dc (UInt8.ofNat (48 + u % 10) :: ds) = .int .u8 (48 + (u : Int) % 10) :: dc ds) := by
        show dc _ = _
        simp only [dc, List.map_cons, dig_toNat]
      have HO := World.ownsRow_lit (base := w.heap.size) (e := 5) (size := 1) wr #[.int .u8 (48 + (u : Int) % 10)] 1 hbs (by decide) rfl
      rcases hown.2 with ⟨hvn, hn⟩ | ⟨g, cap, cur, hvn, hg, hrow, hc1, hc2, hc3, hc4⟩
      · subst hvn
        have hds : ds = [] := List.eq_nil_of_length_eq_zero hn
        subst hds
        have HO' : Hid _ := HO
        clear HO hown
        go_wp2_with fail
        go_roundg (u / 10)
        case measure => omega
        case rel => exact ⟨u / 10, [UInt8.ofNat (48 + u % 10)], by go_num, Nat.le_refl _, by simp at hl ⊢; omega, HD2, by rw [HC.out]; exact HO'.out, hb.alloc hbs _⟩
      · subst hvn
        have HN := own_news hown
        have HN' : Hid _ := HN
        have HO' : Hid _ := HO
        clear HN HO hrow hc4
        go_wp2_with (at_builtin; refine wpList_append_own _ rfl (.tmp 12) (.tmp 13) 38 rfl w.heap.size 5 i0 (.int .u8 0) 1 1 Ybaf.underlying38 hi hz0 hz1 hz2 rfl (by decide) _ 1 _ rfl HO'.out ⟨g, 0, none⟩ ds.length cap (dc ds) rfl (by simp [dc]) (HN'.out _) (dc_one ds) (by unfold maxLen; omega) (by omega) (by simp; omega) ?_; intro v2 w2 hown2 hgrow hnil)
        go_roundg (u / 10)
        case measure => omega
        case rel =>
          refine ⟨u / 10, UInt8.ofNat (48 + u % 10) :: ds, by go_num, Nat.le_refl _, by simp; omega, HD2, ?_, ?_⟩
          · rw [HC.out]
            have : (1 + ds.length) = (UInt8.ofNat (48 + u % 10) :: ds).length := by simp; omega
            rw [← this]
            exact hown2
          · refine (hb.alloc hbs _).grown hgrow (by simp; omega) ?_
            intro k hk
            have hk2 : some wr.heap.size = some k := hk
            simp only [Option.some.injEq] at hk2
            omega
    · obtain rfl : u = 0 := by omega
      have hd := hD.out
      simp only [if_true, List.nil_append] at hd
      subst hd
      rcases hown.2 with ⟨hvn, hn⟩ | ⟨g, cap, cur, hvn, hg, hrow, hc1, hc2, hc3, hc4⟩
      · exfalso
        rw [Lib.decDigits.eq_def] at hn
        split at hn <;> simp at hn
      · subst hvn
        have hc : ∀ j (hj : j < (Lib.decDigits v0).length), wr.cell? ((⟨g, 0, none⟩ : Addr).add j) = some (.int .u8 ((Lib.decDigits v0)[j].toNat : Int)) := by
          intro j hj
          have e1 : (⟨g, 0, none⟩ : Addr).add j = ⟨g, j, none⟩ := by rw [addp, Nat.zero_add]
          rw [e1, hown.cellAt j (by omega)]
          simp [dc, List.getElem?_eq_getElem hj]
        have hcv := run_convert_bytes_back (P := Ybaf.prog) wr 38 9 5 ⟨g, 0, none⟩ cap (Lib.decDigits v0) Ybaf.underlying38 Ybaf.underlying5 Ybaf.underlying9 hc
        clear hc hrow hc4 hown
        go_wp2_with fail
        go_ret
        refine ⟨?_, hb⟩
        show Ending.returned _ = _
        have e2 : Lib.itoa (v0 : Int) = Lib.decDigits v0 := by
          unfold Lib.itoa
          rw [if_neg (by omega)]
          simp
        rw [e2]
        rfl
end Go.Proofs.YbulkditiFmt
