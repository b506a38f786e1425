/-
  LawS5497AWhole: the walk from 'make([]*proc, n)' on: the rows are made and filled, the scheduler and the worker are laid, the channel is sent to.
-/
import Derived.Test.YbulkdiuyASend
namespace Go.Proofs.Ybulkdiuy.lawS5497AWhole
open Go.RowKit Go.Conc Go.Deep

theorem info23 : (Yba.prog.info? 23).map (fun i => (i.zero, i.size, i.bytes)) = some (some (.pointer none), 1, 8) := by kernel_rfl
theorem size48 : (Yba.prog.info? 48).map (·.size) = some 1 := by kernel_rfl
theorem mk49 (w : World) : (Instr.makeChan 49 (.int .i64 1)).run Yba.prog w = .ok (.chan (some w.heap.size)) (w.alloc (.chan 1 #[] false 0 0 false)) := by
  have h : (Yba.prog.info? 23).map (·.bytes) = some 8 := by kernel_rfl
  obtain ⟨i, hi, hb⟩ := Option.map_eq_some_iff.1 h
  simpa using run_makeChan (P := Yba.prog) (w := w) Yba.underlying49 hi .i64 1 (by omega) (by rw [hb]; omega)

theorem ptrs_one (qs : List Nat) : ∀ u ∈ ptrs qs, u.oneCell' = true := by
  intro u hu
  simp only [ptrs, List.mem_map] at hu
  obtain ⟨b, _, rfl⟩ := hu
  rfl

/-- 'before' is made, and the spares are copied into it. -/
theorem copied (W1 W2 : World) (m : Nat) (qs : List Nat) (F2 : Fill W1 W1.heap.size m 48 (fun _ => #[.chan none]) 51 qs W2) (hq : qs.length = m) :
    ∃ w3, (∀ ty, (Builtin.copy_ #[47, 47] ty #[.slice (some ⟨W2.heap.size, 0, none⟩) m m, .slice (some ⟨W1.heap.size, 0, none⟩) m m]).run Yba.prog (W2.alloc (.cells (madeCells #[.pointer none] m) 48)) = .ok (goInt (ptrs qs).length) w3) ∧
      w3.heap[W2.heap.size]? = some (.cells (ptrs qs).toArray 48 (0, 0)) ∧ Below W2.heap.size W2 w3 := by
  have hl : (ptrs qs).length = m := by simp [ptrs, hq]
  have hg : (W2.alloc (.cells (madeCells #[.pointer none] m) 48)).heap[W2.heap.size]? = some (.cells (madeCells #[.pointer none] m) 48 (0, 0)) := blk_alloc_new _ _
  have hb : (W2.alloc (.cells (madeCells #[.pointer none] m) 48)).heap[W1.heap.size]? = some (.cells (ptrs qs).toArray 48 (0, 0)) := by rw [blk_alloc_lt _ _ _ F2.size]; exact F2.whole hq
  refine ⟨_, fun ty => run_copy_row Yba.prog _ 47 47 ty 48 W2.heap.size 0 m m ⟨W1.heap.size, 0, none⟩ m m _ 48 (ptrs qs) Yba.underlying47 size48 hg (by rw [hl]; simp) ?_ (by rw [size_madeCells]; omega) (ptrs_one qs), ?_, ?_⟩
  · intro j v hj
    rw [Go.WideShapes.add_plain, Nat.zero_add]
    simp only [World.cell?, hb, List.getElem?_toArray]
    exact hj
  · rw [setRow_heap _ _ _ _ _ _ hg]
    have e : (madeCells #[.pointer none] m).toList.length = m := by simp [size_madeCells]
    rw [List.take_zero, List.nil_append, List.drop_eq_nil_of_le (by rw [e]; omega), List.append_nil]
  · exact below_setRow ((Below.refl _ _).alloc (Nat.le_refl _) _) (Nat.le_refl _) _

/-- The scheduler, the processor that is to be handed over, the channel, the worker: four blocks more. -/
theorem snap0 (w W1 W2 w3 : World) (n m : Nat) (st : Bool) (tag : Int) (ps qs : List Nat) (F1 : Fill w w.heap.size n 23 (fun j => procA j) 46 ps W1) (hp : ps.length = n) (F2 : Fill W1 W1.heap.size m 48 (fun _ => #[.chan none]) 51 qs W2) (hq : qs.length = m)
    (h3 : w3.heap[W2.heap.size]? = some (.cells (ptrs qs).toArray 48 (0, 0))) (B3 : Below W2.heap.size W2 w3) (hm : m ≤ 255) :
    Snap w n m st ps qs w.heap.size W2.heap.size w3.heap.size (w3.heap.size + 1 + 1) (w3.heap.size + 1 + 1 + 1) (.slice (some ⟨W1.heap.size, 0, none⟩) m m) (ptrs qs) #[] 0 0
      ((((w3.alloc (.cells (schC (.slice (some ⟨w.heap.size, 0, none⟩) n n) (.slice (some ⟨W1.heap.size, 0, none⟩) m m) 0 st) 75)).alloc (.cells (procA tag) 46)).alloc (.chan 1 #[] false 0 0 false)).alloc (.cells #[.chan (some (w3.heap.size + 1 + 1))] 51)) := by
  have s1 := F1.below.size
  have s2 := F2.below.size
  have s3 := B3.size
  have z1 := F1.size
  have z2 := F2.size
  obtain ⟨A, hA⟩ : ∃ x, x = w3.alloc (.cells (schC (.slice (some ⟨w.heap.size, 0, none⟩) n n) (.slice (some ⟨W1.heap.size, 0, none⟩) m m) 0 st) 75) := ⟨_, rfl⟩
  obtain ⟨B, hB⟩ : ∃ x, x = A.alloc (.cells (procA tag) 46) := ⟨_, rfl⟩
  obtain ⟨C, hC⟩ : ∃ x, x = B.alloc (.chan 1 #[] false 0 0 false) := ⟨_, rfl⟩
  rw [← hA, ← hB, ← hC]
  have eA : A.heap.size = w3.heap.size + 1 := by rw [hA, nblk_alloc]
  have eB : B.heap.size = w3.heap.size + 1 + 1 := by rw [hB, nblk_alloc, eA]
  have eC : C.heap.size = w3.heap.size + 1 + 1 + 1 := by rw [hC, nblk_alloc, eB]
  obtain ⟨D, hD⟩ : ∃ x, x = C.alloc (.cells #[.chan (some (w3.heap.size + 1 + 1))] 51) := ⟨_, rfl⟩
  rw [← hD]
  have up : ∀ k, k < w3.heap.size → D.heap[k]? = w3.heap[k]? := by
    intro k hk
    rw [hD, blk_alloc_lt _ _ _ (by omega), hC, blk_alloc_lt _ _ _ (by omega), hB, blk_alloc_lt _ _ _ (by omega), hA, blk_alloc_lt _ _ _ hk]
  have old3 : ∀ {k : Nat} {o : Obj}, W2.heap[k]? = some o → D.heap[k]? = some o := by
    intro k o hk
    have hl := lt_of hk
    rw [up k (by omega), B3.block k hl]
    exact hk
  have old2 : ∀ {k : Nat} {o : Obj}, W1.heap[k]? = some o → D.heap[k]? = some o := by
    intro k o hk
    exact old3 ((F2.below.block k (lt_of hk)).trans hk)
  have hr3 := lt_of h3
  refine ⟨?_, hp, hq, old2 (F1.whole hp), fun j b hj => old2 (F1.el j b hj).2, ?_, ?_, ?_, ?_, ?_, by omega, by omega⟩
  · have b1 : Below w.heap.size w w3 := (F1.below.trans (F2.below.mono (by omega))).trans (B3.mono (by omega))
    rw [hD, hC, hB, hA]
    exact (((b1.alloc (by omega) _).alloc (by rw [nblk_alloc]; omega) _).alloc (by rw [nblk_alloc, nblk_alloc]; omega) _).alloc (by rw [nblk_alloc, nblk_alloc, nblk_alloc]; omega) _
  · rw [up _ hr3, h3]
  · show D.heap[w3.heap.size]? = _
    rw [hD, blk_alloc_lt _ _ _ (by omega), hC, blk_alloc_lt _ _ _ (by omega), hB, blk_alloc_lt _ _ _ (by omega), hA]
    exact blk_alloc_new _ _
  · have hl : (ptrs qs).length = m := by simp [ptrs, hq]
    refine ⟨by simp, .inr ⟨W1.heap.size, m, (ptrs qs).toArray, by rw [hl], s1, old3 (F2.whole hq), by omega, by unfold maxLen; omega, by simp [hl], by simp⟩⟩
  · rw [hD, ← eC]
    exact blk_alloc_new _ _
  · rw [hD, blk_alloc_lt _ _ _ (by omega), hC, ← eB]
    exact blk_alloc_new _ _

set_option maxHeartbeats 3200000 in
set_option maxRecDepth 1000000 in
theorem build5 (w : World) (n m : Nat) (hn : n ≤ 255) (hm : m ≤ 255) (st : Bool) (tag : Int) (cd : Code) (hc : Yba.f3.body.bind (suffix 5) = some cd) (u0 u1 u3 u5 u6 u7 u8 u9 u10 u13 u14 u15 u16 u17 u18 u19 u20 u21 u22 u23 u24 u25 u26 u27 u28 u29 u30 u31 u32 u33 u34 u35 u36 u37 u38 u39 u40 u41 u42 u43 u44 u45 u46 u47 u48 u49 u50 u51 u52 u53 u54 u55 u56 u57 u58 u59 u60 u61 u62 u63 u64 u65 u66 u67 u68 u69 u70 u71 u72 u73 u74 u75 u76 u77 u78 u79 u80 u81 u82 u83 u84 u85 u86 u87 u88 u89 u90 u91 u92 u93 u94 u95 u96 u97 u98 u99 u100 u101 u102 u103 u104 u105 u106 u107 u108 u109 u110 u111 u112 u113 u114 u115 u116 u117 u118 u119 u120 u121 u122 u123 u124 u125 u126 u127 u128 u129 u130 u131 u132 u133 u134 u135 u136 u137 u138 u139 u140 u141 u142 u143 u144 u145 u146 u147 u148 u149 u150 u151 u152 u153 u154 u155 u156 u157 u158 u159 u160 u161 u162 u163 u164 u165 u166 u167 u168 u169 u170 u171 u172 u173 u174 u175 u176 u177 u178 u179 u180 u181 u182 u183 u184 u185 u186 u187 u188 u189 u190 u191 u192 u193 u194 u195 u196 u197 u198 u199 u200 u201 u202 u203 u204 u205 u206 u207 : Value) :
    wpN Yba.prog cd (bodyPost Yba.prog Yba.f3 (fun e w' => e = .returned (.bool true) ∧ Below w.heap.size w w')) ⟨#[u0, u1, .bool st, u3, .int .i64 tag, u5, u6, u7, u8, u9, u10, .int .i64 (n : Int), .int .i64 (m : Int), u13, u14, u15, u16, u17, u18, u19, u20, u21, u22, u23, u24, u25, u26, u27, u28, u29, u30, u31, u32, u33, u34, u35, u36, u37, u38, u39, u40, u41, u42, u43, u44, u45, u46, u47, u48, u49, u50, u51, u52, u53, u54, u55, u56, u57, u58, u59, u60, u61, u62, u63, u64, u65, u66, u67, u68, u69, u70, u71, u72, u73, u74, u75, u76, u77, u78, u79, u80, u81, u82, u83, u84, u85, u86, u87, u88, u89, u90, u91, u92, u93, u94, u95, u96, u97, u98, u99, u100, u101, u102, u103, u104, u105, u106, u107, u108, u109, u110, u111, u112, u113, u114, u115, u116, u117, u118, u119, u120, u121, u122, u123, u124, u125, u126, u127, u128, u129, u130, u131, u132, u133, u134, u135, u136, u137, u138, u139, u140, u141, u142, u143, u144, u145, u146, u147, u148, u149, u150, u151, u152, u153, u154, u155, u156, u157, u158, u159, u160, u161, u162, u163, u164, u165, u166, u167, u168, u169, u170, u171, u172, u173, u174, u175, u176, u177, u178, u179, u180, u181, u182, u183, u184, u185, u186, u187, u188, u189, u190, u191, u192, u193, u194, u195, u196, u197, u198, u199, u200, u201, u202, u203, u204, u205, u206, u207], []⟩ w := by
  conv at hc => lhs; whnf
  injection hc with hc
  subst hc
  have m22 := run_make_row' (P := Yba.prog) 22 23 (.pointer none) 8 Yba.underlying22 info23 rfl .i64 .i64 n (by omega) (by omega)
  have m47 := run_make_row' (P := Yba.prog) 47 48 (.pointer none) 8 Yba.underlying47 info48 rfl .i64 .i64 m (by omega) (by omega)
  have hni : (n : Int) ≤ 255 := by omega
  have hmi : (m : Int) ≤ 255 := by omega
  refine wpN_seq_k (fun K hK => ?_)
  go_wp2_with fail
  refine wpN_seq_k (fun K hK => ?_)
  go_wp2_with fail
  go_loopg [14] n (fun g iv wq => ∃ (k : Nat) (ps : List Nat), iv = .int .i64 (k : Int) ∧ k + g = n ∧ ps.length = k ∧ Fill w w.heap.size n 23 (fun j => procA j) 46 ps wq)
  case atStart => exact ⟨0, [], rfl, by omega, rfl, Fill.start _ _ _ _ _⟩
  case round =>
    obtain ⟨k, ps, rfl, hkg, hpk, hF⟩ := hrel
    by_cases hk : k < n
    · obtain ⟨q1, q2⟩ := hF.next (by omega)
      have hsz := hF.size
      rw [hpk] at q1 q2
      have HF : Hid (Fill w w.heap.size n 23 (fun j => procA j) 46 ps wr) := hF
      have hkn : (k : Int) < (n : Int) := by omega
      clear hF
      go_wp2_with fail
      go_roundg (gk - 1)
      case measure => omega
      case rel =>
        have h := HF.out.step (by omega)
        rw [hpk, World.setCell_alloc_past _ _ _ _ hsz] at h
        exact ⟨k + 1, ps ++ [wr.heap.size], by go_num, by omega, by simp [hpk], h⟩
    · obtain rfl : n = k := by omega
      have HF1 : Hid (Fill w w.heap.size n 23 (fun j => procA j) 46 ps wr) := hF
      have HP : Hid (ps.length = n) := hpk
      clear hF hpk hkg hk m22
      obtain ⟨W1, hW1⟩ : ∃ x, x = wr := ⟨_, rfl⟩
      subst hW1
      go_wp2_with fail
      refine wpN_seq_k (fun K hK => ?_)
      go_wp2_with fail
      refine wpN_seq_k (fun K hK => ?_)
      go_wp2_with fail
      go_loopg [16] m (fun g iv wq => ∃ (k : Nat) (qs : List Nat), iv = .int .i64 (k : Int) ∧ k + g = m ∧ qs.length = k ∧ Fill W1 W1.heap.size m 48 (fun _ => #[.chan none]) 51 qs wq)
      case atStart => exact ⟨0, [], rfl, by omega, rfl, Fill.start _ _ _ _ _⟩
      case round =>
        obtain ⟨k, qs, rfl, hkg, hpk, hF⟩ := hrel
        by_cases hk : k < m
        · obtain ⟨q1, q2⟩ := hF.next (by omega)
          have hsz := hF.size
          rw [hpk] at q1 q2
          have HF : Hid (Fill W1 W1.heap.size m 48 (fun _ => #[.chan none]) 51 qs wr) := hF
          have hkn : (k : Int) < (m : Int) := by omega
          clear hF
          go_wp2_with fail
          go_roundg (gk - 1)
          case measure => omega
          case rel =>
            have h := HF.out.step (by omega)
            rw [hpk, World.setCell_alloc_past _ _ _ _ hsz] at h
            exact ⟨k + 1, qs ++ [wr.heap.size], by go_num, by omega, by simp [hpk], h⟩
        · obtain rfl : m = k := by omega
          have HF2 : Hid (Fill W1 W1.heap.size m 48 (fun _ => #[.chan none]) 51 qs wr) := hF
          have HQ : Hid (qs.length = m) := hpk
          clear hF hpk hkg hk
          obtain ⟨W2, hW2⟩ : ∃ x, x = wr := ⟨_, rfl⟩
          subst hW2
          go_wp2_with fail
          refine wpN_seq_k (fun K hK => ?_)
          go_wp2_with fail
          obtain ⟨w3, hcopy, h3, hB3⟩ := copied W1 W2 m qs HF2.out HQ.out
          have H3 : Hid (w3.heap[W2.heap.size]? = some (.cells (ptrs qs).toArray 48 (0, 0)) ∧ Below W2.heap.size W2 w3) := ⟨h3, hB3⟩
          clear h3 hB3
          refine wpN_seq_k (fun K hK => ?_)
          go_wp2_with fail
          clear m47 hcopy
          refine wpN_seq_k (fun K hK => ?_)
          go_wp2_with fail
          refine wpN_seq_k (fun K hK => ?_)
          go_wp2_with fail
          have hmc := mk49
          refine wpN_seq_k (fun K hK => ?_)
          go_wp2_with fail
          have SN0 := snap0 w W1 W2 w3 n m st tag ps qs HF1.out HP.out HF2.out HQ.out H3.out.1 H3.out.2 hm
          have SN : Hid (Snap w n m st ps qs w.heap.size W2.heap.size w3.heap.size (w3.heap.size + 1 + 1) (w3.heap.size + 1 + 1 + 1) (.slice (some ⟨W1.heap.size, 0, none⟩) m m) (ptrs qs) #[ptr (w3.heap.size + 1)] 1 0 _) := SN0.sent (ptr (w3.heap.size + 1))
          refine send20 _ _ (w3.heap.size + 1 + 1 + 1) (w3.heap.size + 1 + 1) (ptr (w3.heap.size + 1)) _ rfl rfl rfl (by have h := SN0.wkr; simp only [World.cell?]; exact (by rw [h]; rfl)) SN0.ch _ (by kernel_rfl) ?_
          intro cr hcr
          clear SN0
          exact tail_call w n m hn hm st ps qs w.heap.size W2.heap.size w3.heap.size (w3.heap.size + 1) (w3.heap.size + 1 + 1) (w3.heap.size + 1 + 1 + 1) W1.heap.size _ SN.out (by have := HF2.out.size; omega) cr hcr _ _ _ _ _ _ _ _ _ _ _ _ _ _ _ _ _ _ _ _ _ _ _ _ _ _ _ _ _ _ _ _ _ _ _ _ _ _ _ _ _ _ _ _ _ _ _ _ _ _ _ _ _ _ _ _ _ _ _ _ _ _ _ _ _ _ _ _ _ _ _ _ _ _ _ _ _ _ _ _ _ _ _ _ _ _ _ _ _ _ _ _ _ _ _ _ _ _ _ _ _ _ _ _ _ _ _ _ _ _ _ _ _ _ _ _ _ _ _ _ _ _ _ _ _ _ _ _ _ _ _ _ _ _ _ _ _ _ _ _ _ _ _ _ _ _ _ _ _ _ _ _ _ _ _ _ _ _ _ _ _ _ _ _ _ _ _ _ _ _ _ _ _ _ _ _ _ _ _ _ _ _ _ _ _ _ _ _ _ _ _ _ _ _ _ _ _ _ _ _

end Go.Proofs.Ybulkdiuy.lawS5497AWhole
