import Derived.Test.YbulkrkuCFr
namespace Go.Proofs.Ybulkrku
open Go.RowKit Go.WideMaps
set_option linter.unusedSimpArgs false
attribute [local go_sem ↓] Go.wp_at_zero Go.wp_at_succ

set_option maxRecDepth 100000 in
set_option maxHeartbeats 1000000 in
theorem fresh_any (org fr pt : ByteArray) (d : Int) (sa : Option Addr) (n sc : Nat) (lo pa : Bool) (S : Nat → ByteArray) (w : World) (hn : n ≤ 1024) (hS : StrsIs w w.heap.size sa n S) (ho : org.size ≤ maxLen) (hfr : fr.size ≤ maxLen) (hpt : pt.size ≤ 140737488351232) (hSz : ∀ i, i < n → (S i).size ≤ maxLen) :
    Calls Yba.prog 5 #[.string org, .agg #[.string fr, .string pt, .int .i64 d, .slice sa n sc, .bool lo, .bool pa]] w fun e w' => e = .returned (.bool true) ∧ Below w.heap.size w w' := by
  have hptm : pt.size ≤ maxLen := by unfold maxLen; omega
  have hbel0 : Below w.heap.size w (w.alloc (.cells #[.string fr, .string pt, .int .i64 d, .slice sa n sc, .bool lo, .bool pa] 40 (0, 0))) := (Below.refl _ _).alloc (Nat.le_refl _) _
  have hA0 := block_new w (.cells #[.string fr, .string pt, .int .i64 d, .slice sa n sc, .bool lo, .bool pa] 40 (0, 0))
  have hlen : decide (1024 < (n : Int)) = false := by simp; omega
  go_enter Yba.func5, Yba.ntmps5
  go_wp2_with fail
  generalize w.alloc (.cells #[.string fr, .string pt, .int .i64 d, .slice sa n sc, .bool lo, .bool pa] 40 (0, 0)) = W0 at hbel0 hA0 ⊢
  refine (newTally_any org _ ho).mono ?_
  rintro e w1 ⟨o, c, er, rc, rfl, go, gc, ge, gr, oc, oe, or, ce, cr, ers, mo, mc, me, mr, hb1⟩
  have hA1 := (hb1.block w.heap.size (lt_of_block hA0)).trans hA0
  have lt1 := lt_of_block hA1
  have x0 := cell_at (i := 0) hA1 rfl
  have x1 := cell_at (i := 1) hA1 rfl
  have x2 := cell_at (i := 2) hA1 rfl
  have x3 := cell_at (i := 3) hA1 rfl
  have x4 := cell_at (i := 4) hA1 rfl
  have x5 := cell_at (i := 5) hA1 rfl
  go_wp2_with fail
  clear x0 x1 x2 x3 x4 x5
  have hT2 := tal_start mo mc me mr oc oe or ce cr ers
  have hA2 := block_old hA1 (.cells #[.map (some o), .map (some c), .map (some er), .int .i64 0, .int .i64 0, .int .i64 0, .map (some rc), .int .i64 0, .bool false] 45 (0, 0))
  have hbel2 := (hbel0.trans (hb1.mono (Nat.le_of_lt (lt_of_block hA0)))).alloc (Nat.le_of_lt lt1) (.cells #[.map (some o), .map (some c), .map (some er), .int .i64 0, .int .i64 0, .int .i64 0, .map (some rc), .int .i64 0, .bool false] 45 (0, 0))
  have hA0lt := lt_of_block hA0
  have no : w.heap.size < o := by omega
  have nc : w.heap.size < c := by omega
  have ne : w.heap.size < er := by omega
  have nr : w.heap.size < rc := by omega
  have nT : w.heap.size < w1.heap.size := by omega
  generalize (w1.alloc (.cells #[.map (some o), .map (some c), .map (some er), .int .i64 0, .int .i64 0, .int .i64 0, .map (some rc), .int .i64 0, .bool false] 45 (0, 0))) = W2 at hT2 hA2 hbel2 ⊢
  generalize w1.heap.size = T at hT2 nT ⊢
  clear mo mc me mr hb1 hA1 lt1 hbel0 hA0 hA0lt oc oe or ce cr ers go gc ge gr
  refine (crec_any fr pt d sa n sc lo pa S W2 hn ((hS.below hbel2).mono hbel2.size)).mono ?_
  rintro e w3 ⟨g, rfl, hrow3, hb3⟩
  have hT3 := hT2.below hb3 (lt_of_block hT2.blk) hT2.owed.lt hT2.came.lt hT2.erly.lt hT2.rchd.lt
  have hA3 := (hb3.block w.heap.size (lt_of_block hA2)).trans hA2
  have hbel3 := hbel2.trans (hb3.mono hbel2.size)
  clear hT2 hA2 hbel2 hb3
  go_wp2_with fail
  have hR4 := block_new w3 (.cells #[.int .u64 0, .string fr, .string pt, .int .i64 d, .slice (some ⟨g, 0, none⟩) n n, .bool lo, .bool pa] 52 (0, 0))
  refine (count_any (w3.alloc (.cells #[.int .u64 0, .string fr, .string pt, .int .i64 d, .slice (some ⟨g, 0, none⟩) n n, .bool lo, .bool pa] 52 (0, 0))) 0 g n S fr pt d lo pa T o c er rc 1 (upd noneAt emp (.string org)) noneAt (fun _ => false) 1 0 0 0 0 0 false (hT3.alloc _) ((own_base hrow3 (Nat.zero_le _)).alloc _) hn (by omega) hfr hpt hSz (by omega) (by omega)).mono ?_
  rintro e w5 ⟨rfl, hT5, hF5⟩
  have l1 := lt_of_block hT3.blk
  have l2 := hT3.owed.lt
  have l3 := hT3.came.lt
  have l4 := hT3.rchd.lt
  have hR5 := (hF5.block w3.heap.size (by simp) (by omega) (by omega) (by omega) (by omega)).trans hR4
  have hA5 := (hF5.block w.heap.size (by have := lt_of_block hA3; simp; omega) (by omega) (by omega) (by omega) (by omega)).trans (block_old hA3 _)
  have hbel5 := (hbel3.alloc hbel3.size (.cells #[.int .u64 0, .string fr, .string pt, .int .i64 d, .slice (some ⟨g, 0, none⟩) n n, .bool lo, .bool pa] 52 (0, 0))).trans (hF5.below (B := w.heap.size) (by have := hbel3.size; simp; omega) (by omega) (by omega) (by omega) (by omega))
  have hS5 := hS.below hbel5
  clear hR4 hT3 hA3 hbel3 hF5 hrow3 l1 l2 l3 l4 hS no nc ne nr nT
  generalize w3.heap.size = R at hR5 ⊢
  have hFO := fun i (hi : i < n) => kids_child pt S (era (upd noneAt emp (.string org)) pt) n i hn hi
  have hFC := upd_same noneAt pt (.string fr)
  have hch : ∀ i, era (upd noneAt emp (.string org)) pt (childOf pt i) = none := fun i => by rw [era_other _ (childOf_ne pt i), upd_other _ _ (child_ne_emp pt i)]; rfl
  have hK := kidSz_all pt S (era (upd noneAt emp (.string org)) pt) (if (upd noneAt emp (.string org) pt).isSome then 1 - 1 else 1) hch n hn
  have hFe : pt ≠ emp → kids pt S (era (upd noneAt emp (.string org)) pt) n emp = some (.string org) := fun h => by
    rw [kids_else _ _ _ _ _ (fun i _ h' => child_ne_emp pt i h'.symm), era_other _ (Ne.symm h), upd_same]
  rw [hK] at hT5
  simp only [Bool.false_or, noneAt, Option.isSome_none, if_false, Bool.false_eq_true, Nat.zero_add, Int.zero_add] at hT5
  generalize kids pt S (era (upd noneAt emp (.string org)) pt) n = FO at hT5 hFO hFe
  generalize upd noneAt pt (.string fr) = FC at hT5 hFC
  clear hK hch
  by_cases hpe : pt = emp
  · cases lo
    · have hup : upd noneAt emp (.string org) pt = some (.string org) := by rw [hpe]; exact upd_same _ _ _
      simp only [hup, Option.isSome_some, if_true, if_false, Bool.false_eq_true, Nat.sub_self, Nat.zero_add] at hT5
      have hie : pt.toList.isEmpty = true := by subst hpe; rw [ByteArray.toList_eq]; rfl
      clear hup
      have t0 := cell_at (i := 0) hT5.blk rfl
      have t1 := cell_at (i := 1) hT5.blk rfl
      have x3 := cell_at (i := 3) hA5 rfl
      have r1 := cell_at (i := 1) hR5 rfl
      have r2 := cell_at (i := 2) hR5 rfl
      have hlc := hT5.cameLook hptm
      rw [hFC] at hlc
      simp only [Option.getD_some, Option.isSome_some] at hlc
      obtain ⟨ln1, ln2, _, _⟩ := hT5.lens
      have HFO : Hid (∀ i, i < n → FO (childOf pt i) = some (.string (S i))) := hFO
      clear hFO hFC hFe hpe
      go_wp2_with fail
      go_loopw [82] (fun i wr => ∃ k : Nat, k ≤ n ∧ i = .int .i64 k ∧ Below w5.heap.size w5 wr) (fun i _ => n - (intOf i).toNat)
      case atStart => exact ⟨0, Nat.zero_le _, rfl, Below.refl _ _⟩
      case round =>
        obtain ⟨k, hk, rfl, hbr⟩ := hrel
        have hTr := hT5.below hbr (lt_of_block hT5.blk) hT5.owed.lt hT5.came.lt hT5.erly.lt hT5.rchd.lt
        have hAr := (hbr.block _ (lt_of_block hA5)).trans hA5
        have hRr := (hbr.block _ (lt_of_block hR5)).trans hR5
        have hbelr := hbel5.trans (hbr.mono hbel5.size)
        clear t0 t1 x3 r1 r2 ln1 ln2 hlc
        by_cases hlt : k < n
        · have hkS := hSz k hlt
          rcases (hS5.below (hbr.mono hbel5.size)) with h0 | ⟨b, off, hb, rfl, hc⟩
          · omega
          have hck := hc k hlt
          have hfk := HFO.out k hlt
          have t0 := cell_at (i := 0) hTr.blk rfl
          have r2 := cell_at (i := 2) hRr rfl
          have i0 : (0 : Int) ≤ (k : Int) := Int.natCast_nonneg _
          have i1 : (k : Int) < (n : Int) := by omega
          clear hc hS5 hT5 hA5 hR5 hbel5
          go_wp2_with fail
          go_region_held3 (fun w' => w'.cell? ⟨T, 0, none⟩ = some (.map (some o)) ∧ w'.cell? ⟨R, 2, none⟩ = some (.string pt))
            (first | go_keep)
            ((go_at_call 13; refine (child_any pt k _ (by omega) hpt).mono ?_; rintro e w6 ⟨rfl, hb6⟩; have hT6 := hTr.drew.below hb6 (lt_of_block hTr.blk) hTr.owed.lt hTr.came.lt hTr.erly.lt hTr.rchd.lt; have hl6 := hT6.owedLook (s := childOf pt k) (by rw [childOf_size]; have := uv_le k; unfold maxLen; omega); rw [hfk] at hl6; simp only [Option.getD_some, Option.isSome_some] at hl6; have t06 := cell_at (i := 0) hT6.blk rfl; have r26 := cell_at (i := 2) ((hb6.block R (lt_of_block hRr)).trans hRr) rfl))
          go_wp2
          go_roundw
          case rel => exact ⟨k + 1, by omega, by go_num, hbr.trans (((Below.refl wr.heap.size wr).drew.trans hb6).mono hbr.size)⟩
          case measure => simp [intOf]; omega
        · obtain rfl : k = n := by omega
          have t2 := cell_at (i := 2) hTr.blk rfl
          have t3 := cell_at (i := 3) hTr.blk rfl
          have t4 := cell_at (i := 4) hTr.blk rfl
          have t5 := cell_at (i := 5) hTr.blk rfl
          have t6 := cell_at (i := 6) hTr.blk rfl
          have t7 := cell_at (i := 7) hTr.blk rfl
          have t8 := cell_at (i := 8) hTr.blk rfl
          have x2 := cell_at (i := 2) hAr rfl
          have x3 := cell_at (i := 3) hAr rfl
          have x4 := cell_at (i := 4) hAr rfl
          have x5 := cell_at (i := 5) hAr rfl
          have r1 := cell_at (i := 1) hRr rfl
          have ln3 := fun m => (hTr.drewN m).lens.2.2.1
          have ln4 := fun m => (hTr.drewN m).lens.2.2.2
          have hlr := fun m => (hTr.drewN m).rchdLook hfr
          simp only [rAdd, decide_true, Bool.true_or] at hlr
          clear hT5 hTr hA5 hR5 hAr hRr hS5 hbel5 hSz
          go_wp2_with fail
          go_quiet ((go_at_call 14; exact Calls.quiet_of_same (lost_any _ _)))
          go_wp2
          all_goals
            go_ret
            exact ⟨rfl, below_drewN hbelr _⟩
    · have hup : upd noneAt emp (.string org) pt = some (.string org) := by rw [hpe]; exact upd_same _ _ _
      simp only [hup, Option.isSome_some, if_true, if_false, Bool.false_eq_true, Nat.sub_self, Nat.zero_add] at hT5
      have hie : pt.toList.isEmpty = true := by subst hpe; rw [ByteArray.toList_eq]; rfl
      clear hup
      have t0 := cell_at (i := 0) hT5.blk rfl
      have t1 := cell_at (i := 1) hT5.blk rfl
      have x3 := cell_at (i := 3) hA5 rfl
      have r1 := cell_at (i := 1) hR5 rfl
      have r2 := cell_at (i := 2) hR5 rfl
      have hlc := hT5.cameLook hptm
      rw [hFC] at hlc
      simp only [Option.getD_some, Option.isSome_some] at hlc
      obtain ⟨ln1, ln2, _, _⟩ := hT5.lens
      have HFO : Hid (∀ i, i < n → FO (childOf pt i) = some (.string (S i))) := hFO
      clear hFO hFC hFe hpe
      go_wp2_with fail
      go_loopw [82] (fun i wr => ∃ k : Nat, k ≤ n ∧ i = .int .i64 k ∧ Below w5.heap.size w5 wr) (fun i _ => n - (intOf i).toNat)
      case atStart => exact ⟨0, Nat.zero_le _, rfl, Below.refl _ _⟩
      case round =>
        obtain ⟨k, hk, rfl, hbr⟩ := hrel
        have hTr := hT5.below hbr (lt_of_block hT5.blk) hT5.owed.lt hT5.came.lt hT5.erly.lt hT5.rchd.lt
        have hAr := (hbr.block _ (lt_of_block hA5)).trans hA5
        have hRr := (hbr.block _ (lt_of_block hR5)).trans hR5
        have hbelr := hbel5.trans (hbr.mono hbel5.size)
        clear t0 t1 x3 r1 r2 ln1 ln2 hlc
        by_cases hlt : k < n
        · have hkS := hSz k hlt
          rcases (hS5.below (hbr.mono hbel5.size)) with h0 | ⟨b, off, hb, rfl, hc⟩
          · omega
          have hck := hc k hlt
          have hfk := HFO.out k hlt
          have t0 := cell_at (i := 0) hTr.blk rfl
          have r2 := cell_at (i := 2) hRr rfl
          have i0 : (0 : Int) ≤ (k : Int) := Int.natCast_nonneg _
          have i1 : (k : Int) < (n : Int) := by omega
          clear hc hS5 hT5 hA5 hR5 hbel5
          go_wp2_with fail
          go_region_held3 (fun w' => w'.cell? ⟨T, 0, none⟩ = some (.map (some o)) ∧ w'.cell? ⟨R, 2, none⟩ = some (.string pt))
            (first | go_keep)
            ((go_at_call 13; refine (child_any pt k _ (by omega) hpt).mono ?_; rintro e w6 ⟨rfl, hb6⟩; have hT6 := hTr.drew.below hb6 (lt_of_block hTr.blk) hTr.owed.lt hTr.came.lt hTr.erly.lt hTr.rchd.lt; have hl6 := hT6.owedLook (s := childOf pt k) (by rw [childOf_size]; have := uv_le k; unfold maxLen; omega); rw [hfk] at hl6; simp only [Option.getD_some, Option.isSome_some] at hl6; have t06 := cell_at (i := 0) hT6.blk rfl; have r26 := cell_at (i := 2) ((hb6.block R (lt_of_block hRr)).trans hRr) rfl))
          go_wp2
          go_roundw
          case rel => exact ⟨k + 1, by omega, by go_num, hbr.trans (((Below.refl wr.heap.size wr).drew.trans hb6).mono hbr.size)⟩
          case measure => simp [intOf]; omega
        · obtain rfl : k = n := by omega
          have t2 := cell_at (i := 2) hTr.blk rfl
          have t3 := cell_at (i := 3) hTr.blk rfl
          have t4 := cell_at (i := 4) hTr.blk rfl
          have t5 := cell_at (i := 5) hTr.blk rfl
          have t6 := cell_at (i := 6) hTr.blk rfl
          have t7 := cell_at (i := 7) hTr.blk rfl
          have t8 := cell_at (i := 8) hTr.blk rfl
          have x2 := cell_at (i := 2) hAr rfl
          have x3 := cell_at (i := 3) hAr rfl
          have x4 := cell_at (i := 4) hAr rfl
          have x5 := cell_at (i := 5) hAr rfl
          have r1 := cell_at (i := 1) hRr rfl
          have ln3 := fun m => (hTr.drewN m).lens.2.2.1
          have ln4 := fun m => (hTr.drewN m).lens.2.2.2
          clear hT5 hTr hA5 hR5 hAr hRr hS5 hbel5 hSz
          go_wp2_with fail
          go_quiet ((go_at_call 14; exact Calls.quiet_of_same (lost_any _ _)))
          go_wp2
          all_goals
            go_ret
            exact ⟨rfl, below_drewN hbelr _⟩
  · cases lo
    · have hup : upd noneAt emp (.string org) pt = none := upd_other _ _ hpe
      simp only [hup, Option.isSome_none, if_true, if_false, Bool.false_eq_true] at hT5
      have hie : pt.toList.isEmpty = false := toList_ne hpe
      have hq : ((1 + (n : Int)) != ((n : Int) + 1)) = false := by simp; omega
      clear hup
      have t0 := cell_at (i := 0) hT5.blk rfl
      have t1 := cell_at (i := 1) hT5.blk rfl
      have x3 := cell_at (i := 3) hA5 rfl
      have r1 := cell_at (i := 1) hR5 rfl
      have r2 := cell_at (i := 2) hR5 rfl
      have hlc := hT5.cameLook hptm
      rw [hFC] at hlc
      simp only [Option.getD_some, Option.isSome_some] at hlc
      have hle := hT5.owedLook (s := ⟨#[]⟩) (by decide)
      rw [show FO ⟨#[]⟩ = some (.string org) from hFe hpe] at hle
      simp only [Option.getD_some, Option.isSome_some] at hle
      obtain ⟨ln1, ln2, _, _⟩ := hT5.lens
      have HFO : Hid (∀ i, i < n → FO (childOf pt i) = some (.string (S i))) := hFO
      clear hFO hFC hFe hpe
      go_wp2_with fail
      go_loopw [82] (fun i wr => ∃ k : Nat, k ≤ n ∧ i = .int .i64 k ∧ Below w5.heap.size w5 wr) (fun i _ => n - (intOf i).toNat)
      case atStart => exact ⟨0, Nat.zero_le _, rfl, Below.refl _ _⟩
      case round =>
        obtain ⟨k, hk, rfl, hbr⟩ := hrel
        have hTr := hT5.below hbr (lt_of_block hT5.blk) hT5.owed.lt hT5.came.lt hT5.erly.lt hT5.rchd.lt
        have hAr := (hbr.block _ (lt_of_block hA5)).trans hA5
        have hRr := (hbr.block _ (lt_of_block hR5)).trans hR5
        have hbelr := hbel5.trans (hbr.mono hbel5.size)
        clear t0 t1 x3 r1 r2 ln1 ln2 hlc
        by_cases hlt : k < n
        · have hkS := hSz k hlt
          rcases (hS5.below (hbr.mono hbel5.size)) with h0 | ⟨b, off, hb, rfl, hc⟩
          · omega
          have hck := hc k hlt
          have hfk := HFO.out k hlt
          have t0 := cell_at (i := 0) hTr.blk rfl
          have r2 := cell_at (i := 2) hRr rfl
          have i0 : (0 : Int) ≤ (k : Int) := Int.natCast_nonneg _
          have i1 : (k : Int) < (n : Int) := by omega
          clear hc hS5 hT5 hA5 hR5 hbel5
          go_wp2_with fail
          go_region_held3 (fun w' => w'.cell? ⟨T, 0, none⟩ = some (.map (some o)) ∧ w'.cell? ⟨R, 2, none⟩ = some (.string pt))
            (first | go_keep)
            ((go_at_call 13; refine (child_any pt k _ (by omega) hpt).mono ?_; rintro e w6 ⟨rfl, hb6⟩; have hT6 := hTr.drew.below hb6 (lt_of_block hTr.blk) hTr.owed.lt hTr.came.lt hTr.erly.lt hTr.rchd.lt; have hl6 := hT6.owedLook (s := childOf pt k) (by rw [childOf_size]; have := uv_le k; unfold maxLen; omega); rw [hfk] at hl6; simp only [Option.getD_some, Option.isSome_some] at hl6; have t06 := cell_at (i := 0) hT6.blk rfl; have r26 := cell_at (i := 2) ((hb6.block R (lt_of_block hRr)).trans hRr) rfl))
          go_wp2
          go_roundw
          case rel => exact ⟨k + 1, by omega, by go_num, hbr.trans (((Below.refl wr.heap.size wr).drew.trans hb6).mono hbr.size)⟩
          case measure => simp [intOf]; omega
        · obtain rfl : k = n := by omega
          have t2 := cell_at (i := 2) hTr.blk rfl
          have t3 := cell_at (i := 3) hTr.blk rfl
          have t4 := cell_at (i := 4) hTr.blk rfl
          have t5 := cell_at (i := 5) hTr.blk rfl
          have t6 := cell_at (i := 6) hTr.blk rfl
          have t7 := cell_at (i := 7) hTr.blk rfl
          have t8 := cell_at (i := 8) hTr.blk rfl
          have x2 := cell_at (i := 2) hAr rfl
          have x3 := cell_at (i := 3) hAr rfl
          have x4 := cell_at (i := 4) hAr rfl
          have x5 := cell_at (i := 5) hAr rfl
          have r1 := cell_at (i := 1) hRr rfl
          have ln3 := fun m => (hTr.drewN m).lens.2.2.1
          have ln4 := fun m => (hTr.drewN m).lens.2.2.2
          have hlr := fun m => (hTr.drewN m).rchdLook hfr
          simp only [rAdd, decide_true, Bool.true_or] at hlr
          clear hT5 hTr hA5 hR5 hAr hRr hS5 hbel5 hSz
          go_wp2_with fail
          go_quiet ((go_at_call 14; exact Calls.quiet_of_same (lost_any _ _)))
          go_wp2
          all_goals
            go_ret
            exact ⟨rfl, below_drewN hbelr _⟩
    · have hup : upd noneAt emp (.string org) pt = none := upd_other _ _ hpe
      simp only [hup, Option.isSome_none, if_true, if_false, Bool.false_eq_true] at hT5
      have hie : pt.toList.isEmpty = false := toList_ne hpe
      have hq : ((1 + (n : Int)) != ((n : Int) + 1)) = false := by simp; omega
      clear hup
      have t0 := cell_at (i := 0) hT5.blk rfl
      have t1 := cell_at (i := 1) hT5.blk rfl
      have x3 := cell_at (i := 3) hA5 rfl
      have r1 := cell_at (i := 1) hR5 rfl
      have r2 := cell_at (i := 2) hR5 rfl
      have hlc := hT5.cameLook hptm
      rw [hFC] at hlc
      simp only [Option.getD_some, Option.isSome_some] at hlc
      have hle := hT5.owedLook (s := ⟨#[]⟩) (by decide)
      rw [show FO ⟨#[]⟩ = some (.string org) from hFe hpe] at hle
      simp only [Option.getD_some, Option.isSome_some] at hle
      obtain ⟨ln1, ln2, _, _⟩ := hT5.lens
      have HFO : Hid (∀ i, i < n → FO (childOf pt i) = some (.string (S i))) := hFO
      clear hFO hFC hFe hpe
      go_wp2_with fail
      go_loopw [82] (fun i wr => ∃ k : Nat, k ≤ n ∧ i = .int .i64 k ∧ Below w5.heap.size w5 wr) (fun i _ => n - (intOf i).toNat)
      case atStart => exact ⟨0, Nat.zero_le _, rfl, Below.refl _ _⟩
      case round =>
        obtain ⟨k, hk, rfl, hbr⟩ := hrel
        have hTr := hT5.below hbr (lt_of_block hT5.blk) hT5.owed.lt hT5.came.lt hT5.erly.lt hT5.rchd.lt
        have hAr := (hbr.block _ (lt_of_block hA5)).trans hA5
        have hRr := (hbr.block _ (lt_of_block hR5)).trans hR5
        have hbelr := hbel5.trans (hbr.mono hbel5.size)
        clear t0 t1 x3 r1 r2 ln1 ln2 hlc
        by_cases hlt : k < n
        · have hkS := hSz k hlt
          rcases (hS5.below (hbr.mono hbel5.size)) with h0 | ⟨b, off, hb, rfl, hc⟩
          · omega
          have hck := hc k hlt
          have hfk := HFO.out k hlt
          have t0 := cell_at (i := 0) hTr.blk rfl
          have r2 := cell_at (i := 2) hRr rfl
          have i0 : (0 : Int) ≤ (k : Int) := Int.natCast_nonneg _
          have i1 : (k : Int) < (n : Int) := by omega
          clear hc hS5 hT5 hA5 hR5 hbel5
          go_wp2_with fail
          go_region_held3 (fun w' => w'.cell? ⟨T, 0, none⟩ = some (.map (some o)) ∧ w'.cell? ⟨R, 2, none⟩ = some (.string pt))
            (first | go_keep)
            ((go_at_call 13; refine (child_any pt k _ (by omega) hpt).mono ?_; rintro e w6 ⟨rfl, hb6⟩; have hT6 := hTr.drew.below hb6 (lt_of_block hTr.blk) hTr.owed.lt hTr.came.lt hTr.erly.lt hTr.rchd.lt; have hl6 := hT6.owedLook (s := childOf pt k) (by rw [childOf_size]; have := uv_le k; unfold maxLen; omega); rw [hfk] at hl6; simp only [Option.getD_some, Option.isSome_some] at hl6; have t06 := cell_at (i := 0) hT6.blk rfl; have r26 := cell_at (i := 2) ((hb6.block R (lt_of_block hRr)).trans hRr) rfl))
          go_wp2
          go_roundw
          case rel => exact ⟨k + 1, by omega, by go_num, hbr.trans (((Below.refl wr.heap.size wr).drew.trans hb6).mono hbr.size)⟩
          case measure => simp [intOf]; omega
        · obtain rfl : k = n := by omega
          have t2 := cell_at (i := 2) hTr.blk rfl
          have t3 := cell_at (i := 3) hTr.blk rfl
          have t4 := cell_at (i := 4) hTr.blk rfl
          have t5 := cell_at (i := 5) hTr.blk rfl
          have t6 := cell_at (i := 6) hTr.blk rfl
          have t7 := cell_at (i := 7) hTr.blk rfl
          have t8 := cell_at (i := 8) hTr.blk rfl
          have x2 := cell_at (i := 2) hAr rfl
          have x3 := cell_at (i := 3) hAr rfl
          have x4 := cell_at (i := 4) hAr rfl
          have x5 := cell_at (i := 5) hAr rfl
          have r1 := cell_at (i := 1) hRr rfl
          have ln3 := fun m => (hTr.drewN m).lens.2.2.1
          have ln4 := fun m => (hTr.drewN m).lens.2.2.2
          clear hT5 hTr hA5 hR5 hAr hRr hS5 hbel5 hSz
          go_wp2_with fail
          go_quiet ((go_at_call 14; exact Calls.quiet_of_same (lost_any _ _)))
          go_wp2
          all_goals
            go_ret
            exact ⟨rfl, below_drewN hbelr _⟩
end Go.Proofs.Ybulkrku
