import Derived.Test.YbulkrkuCTw
namespace Go.Proofs.Ybulkrku
open Go.RowKit Go.WideMaps
set_option linter.unusedSimpArgs false
set_option linter.unusedVariables false
attribute [local go_sem ↓] Go.wp_at_zero Go.wp_at_succ

set_option maxRecDepth 100000 in
set_option maxHeartbeats 4000000 in
theorem two_any2 (org fr1 pt1 fr2 pt2 : ByteArray) (d1 d2 : Int) (sa1 sa2 : Option Addr) (n1 sc1 n2 sc2 : Nat) (pa1 pa2 : Bool) (S1 S2 : Nat → ByteArray) (w : World) (hn1 : n1 ≤ 1024) (hn2 : n2 ≤ 1024) (hfe : fr1 ≠ fr2) (hS1 : StrsIs w w.heap.size sa1 n1 S1) (hS2 : StrsIs w w.heap.size sa2 n2 S2)
    (ho : org.size ≤ maxLen) (hfr1 : fr1.size ≤ maxLen) (hpt1 : pt1.size ≤ 140737488351232) (hSz1 : ∀ i, i < n1 → (S1 i).size ≤ maxLen) (hfr2 : fr2.size ≤ maxLen) (hpt2 : pt2.size ≤ 140737488351232) (hSz2 : ∀ i, i < n2 → (S2 i).size ≤ maxLen) :
    Calls Yba.prog 6 #[.string org, .agg #[.string fr1, .string pt1, .int .i64 d1, .slice sa1 n1 sc1, .bool false, .bool pa1], .agg #[.string fr2, .string pt2, .int .i64 d2, .slice sa2 n2 sc2, .bool false, .bool pa2]] w fun e w' => e = .returned (.bool true) ∧ Below w.heap.size w w' := by
  have hptm1 : pt1.size ≤ maxLen := by unfold maxLen; omega
  have hptm2 : pt2.size ≤ maxLen := by unfold maxLen; omega
  have hbel0 : Below w.heap.size w ((w.alloc (.cells #[.string fr1, .string pt1, .int .i64 d1, .slice sa1 n1 sc1, .bool false, .bool pa1] 40 (0, 0))).alloc (.cells #[.string fr2, .string pt2, .int .i64 d2, .slice sa2 n2 sc2, .bool false, .bool pa2] 40 (0, 0))) := ((Below.refl _ _).alloc (Nat.le_refl _) _).alloc (by simp) _
  have hA1 := block_old (block_new w (.cells #[.string fr1, .string pt1, .int .i64 d1, .slice sa1 n1 sc1, .bool false, .bool pa1] 40 (0, 0))) (.cells #[.string fr2, .string pt2, .int .i64 d2, .slice sa2 n2 sc2, .bool false, .bool pa2] 40 (0, 0))
  have hA2 := block_at (w := w.alloc (.cells #[.string fr1, .string pt1, .int .i64 d1, .slice sa1 n1 sc1, .bool false, .bool pa1] 40 (0, 0))) (N := w.heap.size + 1) (by simp) (.cells #[.string fr2, .string pt2, .int .i64 d2, .slice sa2 n2 sc2, .bool false, .bool pa2] 40 (0, 0))
  have hlen1 : decide (1024 < (n1 : Int)) = false := by simp; omega
  have hlen2 : decide (1024 < (n2 : Int)) = false := by simp; omega
  go_enter Yba.func6, Yba.ntmps6
  go_wp2_with fail
  generalize (w.alloc (.cells #[.string fr1, .string pt1, .int .i64 d1, .slice sa1 n1 sc1, .bool false, .bool pa1] 40 (0, 0))).alloc (.cells #[.string fr2, .string pt2, .int .i64 d2, .slice sa2 n2 sc2, .bool false, .bool pa2] 40 (0, 0)) = W0 at hbel0 hA1 hA2 ⊢
  refine (newTally_any org _ ho).mono ?_
  rintro e w1 ⟨o, c, er, rc, rfl, go, gc, ge, gr, oc, oe, or, ce, cr, ers, mo, mc, me, mr, hb1⟩
  have l0 := lt_of_block hA2
  replace hA1' := stays hA1 hb1
  replace hA2' := stays hA2 hb1
  have lt1 := lt_of_block hA2'
  have x0 := cell_at (i := 0) hA1' rfl
  have x1 := cell_at (i := 1) hA1' rfl
  have x2 := cell_at (i := 2) hA1' rfl
  have x3 := cell_at (i := 3) hA1' rfl
  have x4 := cell_at (i := 4) hA1' rfl
  have x5 := cell_at (i := 5) hA1' rfl
  have ltw : w.heap.size < w1.heap.size := by omega
  go_wp2_with fail
  clear x0 x1 x2 x3 x4 x5
  have hT2 := tal_start mo mc me mr oc oe or ce cr ers
  replace hA1 := block_old hA1' (.cells #[.map (some o), .map (some c), .map (some er), .int .i64 0, .int .i64 0, .int .i64 0, .map (some rc), .int .i64 0, .bool false] 45 (0, 0))
  replace hA2 := block_old hA2' (.cells #[.map (some o), .map (some c), .map (some er), .int .i64 0, .int .i64 0, .int .i64 0, .map (some rc), .int .i64 0, .bool false] 45 (0, 0))
  have hbel2 := (hbel0.trans (hb1.mono hbel0.size)).alloc (Nat.le_of_lt ltw) (.cells #[.map (some o), .map (some c), .map (some er), .int .i64 0, .int .i64 0, .int .i64 0, .map (some rc), .int .i64 0, .bool false] 45 (0, 0))
  have no : w.heap.size + 1 < o := by omega
  have nc : w.heap.size + 1 < c := by omega
  have ne : w.heap.size + 1 < er := by omega
  have nr : w.heap.size + 1 < rc := by omega
  have nT : w.heap.size + 1 < w1.heap.size := by omega
  generalize (w1.alloc (.cells #[.map (some o), .map (some c), .map (some er), .int .i64 0, .int .i64 0, .int .i64 0, .map (some rc), .int .i64 0, .bool false] 45 (0, 0))) = W2 at hT2 hA1 hA2 hbel2 ⊢
  generalize w1.heap.size = T at hT2 nT ⊢
  clear mo mc me mr hb1 hA1' hA2' lt1 ltw hbel0 l0 oc oe or ce cr ers go gc ge gr
  refine (crec_any fr1 pt1 d1 sa1 n1 sc1 false pa1 S1 W2 hn1 ((hS1.below hbel2).mono hbel2.size)).mono ?_
  rintro e w3 ⟨g1, rfl, hrow1, hb3⟩
  have hT3 := hT2.below hb3 (lt_of_block hT2.blk) hT2.owed.lt hT2.came.lt hT2.erly.lt hT2.rchd.lt
  replace hA1 := stays hA1 hb3
  replace hA2 := stays hA2 hb3
  have hbel3 := hbel2.trans (hb3.mono hbel2.size)
  have ltw := lt_of_block hA2
  have x0 := cell_at (i := 0) hA2 rfl
  have x1 := cell_at (i := 1) hA2 rfl
  have x2 := cell_at (i := 2) hA2 rfl
  have x3 := cell_at (i := 3) hA2 rfl
  have x4 := cell_at (i := 4) hA2 rfl
  have x5 := cell_at (i := 5) hA2 rfl
  clear hT2 hbel2 hb3
  go_wp2_with fail
  clear x0 x1 x2 x3 x4 x5
  have hT4 := hT3.alloc (.cells #[.int .u64 0, .string fr1, .string pt1, .int .i64 d1, .slice (some ⟨g1, 0, none⟩) n1 n1, .bool false, .bool pa1] 52 (0, 0))
  have hrow1 := (own_base hrow1 (Nat.zero_le _)).alloc (.cells #[.int .u64 0, .string fr1, .string pt1, .int .i64 d1, .slice (some ⟨g1, 0, none⟩) n1 n1, .bool false, .bool pa1] 52 (0, 0))
  have hR1 := block_new w3 (.cells #[.int .u64 0, .string fr1, .string pt1, .int .i64 d1, .slice (some ⟨g1, 0, none⟩) n1 n1, .bool false, .bool pa1] 52 (0, 0))
  replace hA1 := block_old hA1 (.cells #[.int .u64 0, .string fr1, .string pt1, .int .i64 d1, .slice (some ⟨g1, 0, none⟩) n1 n1, .bool false, .bool pa1] 52 (0, 0))
  replace hA2 := block_old hA2 (.cells #[.int .u64 0, .string fr1, .string pt1, .int .i64 d1, .slice (some ⟨g1, 0, none⟩) n1 n1, .bool false, .bool pa1] 52 (0, 0))
  have hbel4 := hbel3.alloc hbel3.size (.cells #[.int .u64 0, .string fr1, .string pt1, .int .i64 d1, .slice (some ⟨g1, 0, none⟩) n1 n1, .bool false, .bool pa1] 52 (0, 0))
  have hTR1 : T < w3.heap.size := lt_of_block hT3.blk
  have hoR1 : o < w3.heap.size := hT3.owed.lt
  have hcR1 : c < w3.heap.size := hT3.came.lt
  have hrR1 : rc < w3.heap.size := hT3.rchd.lt
  have hwR1 : w.heap.size + 1 < w3.heap.size := by omega
  generalize w3.alloc (.cells #[.int .u64 0, .string fr1, .string pt1, .int .i64 d1, .slice (some ⟨g1, 0, none⟩) n1 n1, .bool false, .bool pa1] 52 (0, 0)) = W4 at hT4 hrow1 hR1 hA1 hA2 hbel4 ⊢
  generalize w3.heap.size = RR1 at hR1 hTR1 hoR1 hcR1 hrR1 hwR1 ⊢
  clear hT3 hbel3 ltw
  refine (crec_any fr2 pt2 d2 sa2 n2 sc2 false pa2 S2 W4 hn2 ((hS2.below hbel4).mono hbel4.size)).mono ?_
  rintro e w5 ⟨g2, rfl, hrow2, hb5⟩
  have hT5 := hT4.below hb5 (lt_of_block hT4.blk) hT4.owed.lt hT4.came.lt hT4.erly.lt hT4.rchd.lt
  replace hrow1 : w5.ownsRow 0 47 1 (.slice (some ⟨g1, 0, none⟩) n1 n1) n1 (mix n1 S1 n1) := hrow1.kept (row := some W4.heap.size) ⟨hb5.os, hb5.tape, hb5.output, hb5.size, fun k hk _ => hb5.block k hk⟩ (.inr (fun e => by have := (hrow1.lt _ e).2; omega))
  replace hA1 := stays hA1 hb5
  replace hA2 := stays hA2 hb5
  replace hR1 := stays hR1 hb5
  have hbel5 := hbel4.trans (hb5.mono hbel4.size)
  clear hT4 hbel4 hb5
  have ltR := lt_of_block hR1
  have x0 := cell_at (i := 0) hR1 rfl
  have x1 := cell_at (i := 1) hR1 rfl
  have x2 := cell_at (i := 2) hR1 rfl
  have x3 := cell_at (i := 3) hR1 rfl
  have x4 := cell_at (i := 4) hR1 rfl
  have x5 := cell_at (i := 5) hR1 rfl
  have x6 := cell_at (i := 6) hR1 rfl
  go_wp2_with fail
  clear x0 x1 x2 x3 x4 x5 x6
  have hT6 := hT5.alloc (.cells #[.int .u64 0, .string fr2, .string pt2, .int .i64 d2, .slice (some ⟨g2, 0, none⟩) n2 n2, .bool false, .bool pa2] 52 (0, 0))
  replace hrow1 := hrow1.alloc (.cells #[.int .u64 0, .string fr2, .string pt2, .int .i64 d2, .slice (some ⟨g2, 0, none⟩) n2 n2, .bool false, .bool pa2] 52 (0, 0))
  have hrow2 := (own_base hrow2 (Nat.zero_le _)).alloc (.cells #[.int .u64 0, .string fr2, .string pt2, .int .i64 d2, .slice (some ⟨g2, 0, none⟩) n2 n2, .bool false, .bool pa2] 52 (0, 0))
  have hR2 := block_new w5 (.cells #[.int .u64 0, .string fr2, .string pt2, .int .i64 d2, .slice (some ⟨g2, 0, none⟩) n2 n2, .bool false, .bool pa2] 52 (0, 0))
  replace hR1 := block_old hR1 (.cells #[.int .u64 0, .string fr2, .string pt2, .int .i64 d2, .slice (some ⟨g2, 0, none⟩) n2 n2, .bool false, .bool pa2] 52 (0, 0))
  replace hA1 := block_old hA1 (.cells #[.int .u64 0, .string fr2, .string pt2, .int .i64 d2, .slice (some ⟨g2, 0, none⟩) n2 n2, .bool false, .bool pa2] 52 (0, 0))
  replace hA2 := block_old hA2 (.cells #[.int .u64 0, .string fr2, .string pt2, .int .i64 d2, .slice (some ⟨g2, 0, none⟩) n2 n2, .bool false, .bool pa2] 52 (0, 0))
  have hbel6 := hbel5.alloc hbel5.size (.cells #[.int .u64 0, .string fr2, .string pt2, .int .i64 d2, .slice (some ⟨g2, 0, none⟩) n2 n2, .bool false, .bool pa2] 52 (0, 0))
  have hTR2 : T < w5.heap.size := lt_of_block hT5.blk
  have hoR2 : o < w5.heap.size := hT5.owed.lt
  have hcR2 : c < w5.heap.size := hT5.came.lt
  have hrR2 : rc < w5.heap.size := hT5.rchd.lt
  generalize w5.alloc (.cells #[.int .u64 0, .string fr2, .string pt2, .int .i64 d2, .slice (some ⟨g2, 0, none⟩) n2 n2, .bool false, .bool pa2] 52 (0, 0)) = W6 at hT6 hrow1 hrow2 hR1 hR2 hA1 hA2 hbel6 ⊢
  generalize w5.heap.size = RR2 at hR2 hTR2 hoR2 hcR2 hrR2 ltR ⊢
  clear hT5 hbel5
  refine (count_any W6 0 g1 n1 S1 fr1 pt1 d1 false pa1 T o c er rc 1 (upd noneAt emp (.string org)) noneAt (fun _ => false) 1 0 0 0 0 0 false hT6 hrow1 hn1 (by omega) hfr1 hpt1 hSz1 (by omega) (by omega)).mono ?_
  rintro e w7 ⟨rfl, hT7, hF7⟩
  replace hrow2 : w7.ownsRow 0 47 1 (.slice (some ⟨g2, 0, none⟩) n2 n2) n2 (mix n2 S2 n2) := row_frm hT6 hrow2 hF7
  replace hR1 := (hF7.block RR1 (lt_of_block hR1) (by omega) (by omega) (by omega) (by omega)).trans hR1
  replace hR2 := (hF7.block RR2 (lt_of_block hR2) (by omega) (by omega) (by omega) (by omega)).trans hR2
  replace hA1 := (hF7.block w.heap.size (lt_of_block hA1) (by omega) (by omega) (by omega) (by omega)).trans hA1
  replace hA2 := (hF7.block (w.heap.size + 1) (lt_of_block hA2) (by omega) (by omega) (by omega) (by omega)).trans hA2
  have hbel7 := hbel6.trans (hF7.below (B := w.heap.size) hbel6.size (by omega) (by omega) (by omega) (by omega))
  clear hT6 hrow1 hF7 hbel6
  have x0 := cell_at (i := 0) hR2 rfl
  have x1 := cell_at (i := 1) hR2 rfl
  have x2 := cell_at (i := 2) hR2 rfl
  have x3 := cell_at (i := 3) hR2 rfl
  have x4 := cell_at (i := 4) hR2 rfl
  have x5 := cell_at (i := 5) hR2 rfl
  have x6 := cell_at (i := 6) hR2 rfl
  simp only [Bool.false_or, noneAt, Option.isSome_none, if_true, if_false, Bool.false_eq_true, Nat.zero_add, Int.zero_add] at hT7
  go_wp2_with fail
  clear x0 x1 x2 x3 x4 x5 x6
  refine (count_any w7 0 g2 n2 S2 fr2 pt2 d2 false pa2 T o c er rc (1 + n1 + 2) _ _ _ _ _ _ _ _ _ _ hT7 hrow2 hn2 (by omega) hfr2 hpt2 hSz2 (by omega) (by omega)).mono ?_
  rintro e w8 ⟨rfl, hT8, hF8⟩
  replace hR1 := (hF8.block RR1 (lt_of_block hR1) (by omega) (by omega) (by omega) (by omega)).trans hR1
  replace hR2 := (hF8.block RR2 (lt_of_block hR2) (by omega) (by omega) (by omega) (by omega)).trans hR2
  replace hA1 := (hF8.block w.heap.size (lt_of_block hA1) (by omega) (by omega) (by omega) (by omega)).trans hA1
  replace hA2 := (hF8.block (w.heap.size + 1) (lt_of_block hA2) (by omega) (by omega) (by omega) (by omega)).trans hA2
  have hbel8 := hbel7.trans (hF8.below (B := w.heap.size) hbel7.size (by omega) (by omega) (by omega) (by omega))
  clear hT7 hrow2 hF8 hbel7 hS1 hSz1
  have hFOc := fun i (hi : i < n2) => kids_child pt2 S2 (era (kids pt1 S1 (era (upd noneAt emp (.string org)) pt1) n1) pt2) n2 i hn2 hi
  have hFOp := kids_part pt2 S2 (kids pt1 S1 (era (upd noneAt emp (.string org)) pt1) n1) n2
  generalize kids pt2 S2 (era (kids pt1 S1 (era (upd noneAt emp (.string org)) pt1) n1) pt2) n2 = FO at hT8 hFOc hFOp
  have hFC2 := upd_same (upd noneAt pt1 (.string fr1)) pt2 (.string fr2)
  have hFC1 : pt1 ≠ pt2 → upd (upd noneAt pt1 (.string fr1)) pt2 (.string fr2) pt1 = some (.string fr1) := fun h => by rw [upd_other _ _ h, upd_same]
  have hSC : (if (upd noneAt pt1 (.string fr1) pt2).isSome = true then 1 else 1 + 1) = (if pt1 = pt2 then 1 else 2) := by
    by_cases h : pt1 = pt2
    · rw [h, upd_same]; simp
    · rw [upd_other _ _ (Ne.symm h)]; simp [h, noneAt]
  rw [hSC] at hT8
  generalize upd (upd noneAt pt1 (.string fr1)) pt2 (.string fr2) = FC at hT8 hFC2 hFC1
  generalize kidSz pt2 S2 _ _ n2 = SO at hT8
  clear hSC
  have hS8 := hS2.below hbel8
  clear hS2
  have hfb : (fr1.toList == fr2.toList) = false := by rw [ByteArray.toList_eq, ByteArray.toList_eq]; simp; exact fun h => hfe (ByteArray.ext h)
  have hrr : rAdd (fun _ => false) fr1 fr2 = false := by simp [rAdd, Ne.symm hfe]
  simp only [if_true, if_false, Bool.false_eq_true, hrr, Nat.zero_add, Int.zero_add, Nat.reduceAdd] at hT8
  clear hrr hfe
  have t4 := cell_at (i := 4) hT8.blk rfl
  have x3 := cell_at (i := 3) hA1 rfl
  have x4 := cell_at (i := 4) hA1 rfl
  have y3 := cell_at (i := 3) hA2 rfl
  have y4 := cell_at (i := 4) hA2 rfl
  go_wp2_with fail
  go_quiet ((go_at_call 14; exact Calls.quiet_of_same (lost_any _ _)))
  clear t4 x3 x4 y3 y4
  have hT9 := hT8.drewN nq
  have hA19 : (w8.drewN nq).heap[w.heap.size]? = _ := hA1
  have hA29 : (w8.drewN nq).heap[w.heap.size + 1]? = _ := hA2
  have hR19 : (w8.drewN nq).heap[RR1]? = _ := hR1
  have hR29 : (w8.drewN nq).heap[RR2]? = _ := hR2
  have hbel9 := below_drewN hbel8 nq
  have hS9 : StrsIs (w8.drewN nq) w.heap.size sa2 n2 S2 := hS8
  generalize w8.drewN nq = W9 at hT9 hA19 hA29 hR19 hR29 hbel9 hS9 ⊢
  clear hT8 hA1 hA2 hR1 hR2 hbel8 hS8
  have x0 := cell_at (i := 0) hA19 rfl
  have x2 := cell_at (i := 2) hA19 rfl
  have x4 := cell_at (i := 4) hA19 rfl
  have y0 := cell_at (i := 0) hA29 rfl
  have y2 := cell_at (i := 2) hA29 rfl
  have y4 := cell_at (i := 4) hA29 rfl
  have t3 := cell_at (i := 3) hT9.blk rfl
  have t5 := cell_at (i := 5) hT9.blk rfl
  have t6 := cell_at (i := 6) hT9.blk rfl
  obtain ⟨ln1, ln2, ln3, ln4⟩ := hT9.lens
  generalize hM1 : max 0 d1 = M1 at hT9 t3
  generalize hM2 : max M1 d2 = M2 at hT9 t3
  have HM : Hid (max 0 d1 = M1 ∧ max M1 d2 = M2) := ⟨hM1, hM2⟩
  clear hM1 hM2
  go_upto_if 86 with fail
  go_cut [11] (fun s11 wx => s11 = .int .i64 M1 ∧ W9 = wx)
  case first =>
    as_aux_lemma =>
      by_cases hq : 0 < d1
      all_goals
        go_wp2
        go_meet
        case rel => exact ⟨by congr 1; have := HM.out; omega, rfl⟩
  case rest =>
    as_aux_lemma =>
      obtain ⟨h11, hwc⟩ := hcut
      subst h11
      subst hwc
      go_upto_if 97 with fail
      go_cut [11] (fun s11 wx => s11 = .int .i64 M2 ∧ W9 = wx)
      case first =>
        as_aux_lemma =>
          by_cases hq : M1 < d2
          all_goals
            go_wp2
            go_meet
            case rel => exact ⟨by congr 1; have := HM.out; omega, rfl⟩
      case rest =>
        as_aux_lemma =>
          obtain ⟨h11, hwc⟩ := hcut
          subst h11
          subst hwc
          have hl2 := hT9.rchdLook hfr2
          simp only [rAdd, decide_true, Bool.true_or] at hl2
          have hl1 := hT9.rchdLook hfr1
          simp only [rAdd, decide_true, Bool.true_or, Bool.or_true] at hl1
          have r11 := cell_at (i := 1) hR19 rfl
          have r12 := cell_at (i := 2) hR19 rfl
          have r21 := cell_at (i := 1) hR29 rfl
          have r22 := cell_at (i := 2) hR29 rfl
          have t8 := cell_at (i := 8) hT9.blk rfl
          have x5 := cell_at (i := 5) hA19 rfl
          have y5 := cell_at (i := 5) hA29 rfl
          go_upto_region 32 with fail
          go_cut [152] (fun s152 wx => s152 = .bool false ∧ W9 = wx)
          case first =>
            as_aux_lemma =>
              cases pa1
              all_goals
                go_wp2
                go_meet
                case rel => exact ⟨by simp, rfl⟩
          case rest =>
            as_aux_lemma =>
              obtain ⟨h152, hwc⟩ := hcut
              subst h152
              subst hwc
              clear x0 x2 x4 y0 y2 y4 t3 t5 t6 t8 x5 y5 ln1 ln3 ln4 hl2 hl1
              have x1 := cell_at (i := 1) hA19 rfl
              have y1 := cell_at (i := 1) hA29 rfl
              have t1 := cell_at (i := 1) hT9.blk rfl
              have hc2 := hT9.cameLook hptm2
              rw [hFC2] at hc2
              simp only [Option.getD_some, Option.isSome_some] at hc2
              go_upto_if 173 with fail
              go_cut [] (fun wx => W9 = wx)
              case first =>
                as_aux_lemma =>
                  by_cases hpp : pt1 = pt2
                  · have hpb : (pt1.toList == pt2.toList) = true := by rw [hpp]; simp
                    rw [hpb]
                    rw [if_pos hpp] at ln2
                    clear hpp
                    go_wp2
                    go_meet
                    case rel => exact rfl
                  · have hpb : (pt1.toList == pt2.toList) = false := by rw [ByteArray.toList_eq, ByteArray.toList_eq]; simp; exact fun h => hpp (ByteArray.ext h)
                    rw [hpb]
                    rw [if_neg hpp] at ln2
                    have hc1 := hT9.cameLook hptm1
                    rw [hFC1 hpp] at hc1
                    simp only [Option.getD_some, Option.isSome_some] at hc1
                    clear hpp
                    go_wp2
                    go_meet
                    case rel => exact rfl
              case rest =>
                as_aux_lemma =>
                  have hwc := hcut
                  subst hwc
                  clear x1 y1 t1 hc2 ln2 r11 r12 r21
                  have y3 := cell_at (i := 3) hA29 rfl
                  have t0 := cell_at (i := 0) hT9.blk rfl
                  have ho2 := hT9.owedLook hptm2
                  rw [hFOp] at ho2
                  simp only [Option.getD_none, Option.isSome_none] at ho2
                  have HFO : Hid (∀ i, i < n2 → FO (childOf pt2 i) = some (.string (S2 i))) := hFOc
                  clear hFOc hFOp hFC1 hFC2
                  go_wp2_with fail
                  go_loopw [212] (fun i wr => ∃ k : Nat, k ≤ n2 ∧ i = .int .i64 k ∧ Below W9.heap.size W9 wr) (fun i _ => n2 - (intOf i).toNat)
                  case atStart => exact ⟨0, Nat.zero_le _, rfl, Below.refl _ _⟩
                  case round =>
                    obtain ⟨k, hk, rfl, hbr⟩ := hrel
                    have hTr := hT9.below hbr (lt_of_block hT9.blk) hT9.owed.lt hT9.came.lt hT9.erly.lt hT9.rchd.lt
                    have hRr := (hbr.block _ (lt_of_block hR29)).trans hR29
                    have hbelr := hbel9.trans (hbr.mono hbel9.size)
                    clear t0 y3 ho2 r22
                    by_cases hlt : k < n2
                    · have hkS := hSz2 k hlt
                      rcases (hS9.below (hbr.mono hbel9.size)) with h0 | ⟨b, off, hb, rfl, hc⟩
                      · omega
                      have hck := hc k hlt
                      have hfk := HFO.out k hlt
                      have t0 := cell_at (i := 0) hTr.blk rfl
                      have r2 := cell_at (i := 2) hRr rfl
                      have i0 : (0 : Int) ≤ (k : Int) := Int.natCast_nonneg _
                      have i1 : (k : Int) < (n2 : Int) := by omega
                      clear hc hS9 hT9 hA19 hA29 hR19 hR29 hbel9
                      go_wp2_with fail
                      go_region_held3 (fun w' => w'.cell? ⟨T, 0, none⟩ = some (.map (some o)) ∧ w'.cell? ⟨RR2, 2, none⟩ = some (.string pt2))
                        (first | go_keep)
                        ((go_at_call 13; refine (child_any pt2 k _ (by omega) hpt2).mono ?_; rintro e w6 ⟨rfl, hb6⟩; have hT6 := hTr.drew.below hb6 (lt_of_block hTr.blk) hTr.owed.lt hTr.came.lt hTr.erly.lt hTr.rchd.lt; have hl6 := hT6.owedLook (s := childOf pt2 k) (by rw [childOf_size]; have := uv_le k; unfold maxLen; omega); rw [hfk] at hl6; simp only [Option.getD_some, Option.isSome_some] at hl6; have t06 := cell_at (i := 0) hT6.blk rfl; have r26 := cell_at (i := 2) ((hb6.block RR2 (lt_of_block hRr)).trans hRr) rfl))
                      go_wp2
                      go_roundw
                      case rel => exact ⟨k + 1, by omega, by go_num, hbr.trans (((Below.refl wr.heap.size wr).drew.trans hb6).mono hbr.size)⟩
                      case measure => simp [intOf]; omega
                    · obtain rfl : k = n2 := by omega
                      clear hT9 hTr hA19 hA29 hR19 hR29 hRr hS9 hbel9 hSz2
                      go_wp2
                      go_ret
                      exact ⟨rfl, hbelr⟩
end Go.Proofs.Ybulkrku
