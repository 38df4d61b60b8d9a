import Derived.Test.YbulkrkuCCnt
namespace Go.Proofs.Ybulkrku
open Go.RowKit Go.WideMaps
attribute [local go_sem ↓] Go.wp_at_zero Go.wp_at_succ

/-- what a count leaves -/
def Counted (w w' : World) (n : Nat) (S : Nat → ByteArray) (fr pt : ByteArray) (d : Int) (lo rp : Bool) (T o c er rc N : Nat) (fo fc : ByteArray → Option Value) (r : ByteArray → Bool) (so sc sr : Nat) (dp ms du : Int) (pa : Bool) : Prop :=
  Tal w' T o c er rc (N + n + 2) (kids pt S (era fo pt) n) (upd fc pt (.string fr)) (rOf (if lo then r else rAdd r fr)) (kidSz pt S (era fo pt) (if (fo pt).isSome then so - 1 else so) n) (if (fc pt).isSome then sc else sc + 1) (if lo then sr else if r fr then sr else sr + 1)
    (if lo then dp else max dp d) (if lo then ms + n - 1 else ms + n) (if lo then du else if r fr then du + 1 else du) (pa || rp) ∧ Frm w w' T o c rc

set_option maxRecDepth 100000 in
set_option maxHeartbeats 1000000 in
theorem count_any (w : World) (B g n : Nat) (S : Nat → ByteArray) (fr pt : ByteArray) (d : Int) (lo rp : Bool) (T o c er rc N : Nat) (fo fc : ByteArray → Option Value) (r : ByteArray → Bool) (so sc sr : Nat) (dp ms du : Int) (pa : Bool)
    (hT : Tal w T o c er rc N fo fc (rOf r) so sc sr dp ms du pa) (hrow : w.ownsRow B 47 1 (.slice (some ⟨g, 0, none⟩) n n) n (mix n S n)) (hn : n ≤ 1024) (hN : N ≤ 4096) (hfr : fr.size ≤ maxLen) (hpt : pt.size ≤ 140737488351232) (hS : ∀ i, i < n → (S i).size ≤ maxLen)
    (hms : -100 ≤ ms ∧ ms ≤ 4096) (hdu : 0 ≤ du ∧ du ≤ 100) :
    Calls Yba.prog 12 #[.pointer (some ⟨T, 0, none⟩), .agg #[.int .u64 0, .string fr, .string pt, .int .i64 d, .slice (some ⟨g, 0, none⟩) n n, .bool lo, .bool rp]] w fun e w' => e = .returned (.tuple #[]) ∧ Counted w w' n S fr pt d lo rp T o c er rc N fo fc r so sc sr dp ms du pa := by
  obtain ⟨hms1, hms2⟩ := hms
  obtain ⟨hdu1, hdu2⟩ := hdu
  have hptm : pt.size ≤ maxLen := by unfold maxLen; omega
  have hC0 : Cst w (w.alloc (.cells #[.int .u64 0, .string fr, .string pt, .int .i64 d, .slice (some ⟨g, 0, none⟩) n n, .bool lo, .bool rp] 52 (0, 0))) B w.heap.size g n S fr pt d lo rp T o c er rc N fo fc r so sc sr dp ms du pa :=
    ⟨hT.alloc _, block_new w _, hrow.alloc _, Frm.of_new ((Below.refl _ _).alloc (Nat.le_refl _) _)⟩
  clear hT hrow
  go_enter Yba.func12, Yba.ntmps12
  go_wp2_with fail
  generalize w.alloc (.cells #[.int .u64 0, .string fr, .string pt, .int .i64 d, .slice (some ⟨g, 0, none⟩) n n, .bool lo, .bool rp] 52 (0, 0)) = W0 at hC0 ⊢
  obtain ⟨w1, hr1, ht1, hg1, _⟩ := hC0.drew.tal.cameStore (by unfold maxLen; omega) hptm hfr
  have hC1 := hC0.drew.step ht1 hg1 (.inr (.inr (.inl rfl)))
  have t1 := cell_at (i := 1) hC0.tal.blk rfl
  have b1 := cell_at (i := 1) hC0.box rfl
  have b2 := cell_at (i := 2) hC0.box rfl
  clear ht1 hg1 hC0
  go_region
  clear hr1 t1 b1 b2
  go_wp2_with fail
  obtain ⟨w2, hr2, ht2, hg2, _⟩ := hC1.drew.tal.owedDrop hptm 0
  have hC2 := hC1.drew.step ht2 hg2 (.inr (.inl rfl))
  have t0 := cell_at (i := 0) hC1.tal.blk rfl
  have b2 := cell_at (i := 2) hC1.box rfl
  clear ht2 hg2 hC1
  go_region
  clear hr2 t0 b2
  have b4 := cell_at (i := 4) hC2.box rfl
  go_wp2_with fail
  go_loopw [23] (fun i wr => ∃ k : Nat, k ≤ n ∧ i = .int .i64 k ∧ Cst w wr B w.heap.size g n S fr pt d lo rp T o c er rc (N + 1 + k) (kids pt S (era fo pt) k) (upd fc pt (.string fr)) r (kidSz pt S (era fo pt) (if (fo pt).isSome then so - 1 else so) k) (if (fc pt).isSome then sc else sc + 1) sr dp ms du pa) (fun i _ => n - (intOf i).toNat)
  case atStart => exact ⟨0, Nat.zero_le _, rfl, hC2⟩
  case round =>
    obtain ⟨k, hk, rfl, hCk⟩ := hrel
    clear hC2 b4
    by_cases hlt : k < n
    · have hck := (hCk.row.cellAt k (by omega)).trans (mix_get S hlt)
      have hkS := hS k hlt
      have t0 := cell_at (i := 0) hCk.tal.blk rfl
      have b2 := cell_at (i := 2) hCk.box rfl
      have i0 : (0 : Int) ≤ (k : Int) := Int.natCast_nonneg _
      have i1 : (k : Int) < (n : Int) := by omega
      go_wp2_with fail
      go_region_held3 (fun w' => w'.cell? ⟨T, 0, none⟩ = some (.map (some o)) ∧ w'.cell? ⟨w.heap.size, 2, none⟩ = some (.string pt))
        (first | go_keep)
        ((go_at_call 13; refine (child_any pt k _ (by omega) hpt).mono ?_; rintro e w3 ⟨rfl, hb3⟩; have hC3 := hCk.drew.newer hb3; obtain ⟨w4, hr4, ht4, hg4, _⟩ := hC3.tal.owedStore (by unfold maxLen; omega) (s := childOf pt k) (by rw [childOf_size]; have := uv_le k; unfold maxLen; omega) hkS; have hC4 := hC3.step ht4 hg4 (.inr (.inl rfl)); have t03 := cell_at (i := 0) hC3.tal.blk rfl; have b23 := cell_at (i := 2) hC3.box rfl; have t04 := cell_at (i := 0) hC4.tal.blk rfl; have b24 := cell_at (i := 2) hC4.box rfl))
      go_wp2
      go_roundw
      case rel => exact ⟨k + 1, by omega, by go_num, hC4⟩
      case measure => simp [intOf]; omega
    · obtain rfl : k = n := by omega
      cases pa
      · have t8 := cell_at (i := 8) hCk.tal.blk rfl
        have f8 := free_at (i := 8) hCk.tal.blk
        have b6 := cell_at (i := 6) hCk.box rfl
        have hC5 := hCk.set 8 (.bool rp) rfl
        clear hCk hS
        go_wp2_with fail
        clear t8 f8 b6
        generalize wr.setCell ⟨T, 8, none⟩ (.bool rp) = W5 at hC5 ⊢
        have t4 := cell_at (i := 4) hC5.tal.blk rfl
        have f4 := free_at (i := 4) hC5.tal.blk
        have b4 := cell_at (i := 4) hC5.box rfl
        have hC6 := (hC5.set 4 (.int .i64 (ms + k)) rfl).drew
        clear hC5
        go_region
        clear t4 f4 b4
        generalize (W5.setCell ⟨T, 4, none⟩ (.int .i64 (ms + k))).drew = W6 at hC6 ⊢
        cases lo
        · have b5 := cell_at (i := 5) hC6.box rfl
          go_wp2_with fail
          have t3 := cell_at (i := 3) hC6.tal.blk rfl
          have f3 := free_at (i := 3) hC6.tal.blk
          have b3 := cell_at (i := 3) hC6.box rfl
          have hC7 := (hC6.set 3 (.int .i64 (if dp < d then d else dp)) rfl).drew
          clear hC6 b5
          go_region
          clear t3 f3 b3
          generalize hmx : (if dp < d then d else dp) = mx at hC7 ⊢
          have HX : Hid (max dp d = mx) := by show max dp d = mx; rw [← hmx]; split <;> omega
          clear hmx
          generalize (W6.setCell ⟨T, 3, none⟩ (.int .i64 mx)).drew = W7 at hC7 ⊢
          have t6 := cell_at (i := 6) hC7.tal.blk rfl
          have b1 := cell_at (i := 1) hC7.box rfl
          have hlk := hC7.drew.tal.rchdLook hfr
          cases hrf : r fr
          · have HR : Hid (r fr = false) := hrf
            rw [hrf] at hlk
            clear hrf
            go_wp2_with fail
            go_region
            have hC8 := hC7.drew
            clear hC7 hlk t6 b1
            go_wp2_with fail
            generalize W7.drew = W8 at hC8 ⊢
            obtain ⟨w9, hr9, ht9, hg9, _⟩ := hC8.drew.tal.rchdStore (by unfold maxLen; omega) hfr
            have hC9 := hC8.drew.step ht9 hg9 (.inr (.inr (.inr rfl)))
            have t6 := cell_at (i := 6) hC8.tal.blk rfl
            have b1 := cell_at (i := 1) hC8.box rfl
            clear ht9 hg9 hC8
            go_wp2_with fail
            go_region
            go_wp2
            go_end0
            refine ⟨rfl, ?_, hC9.bel⟩
            have hfin := hC9.tal.mono (N' := N + k + 2) (by omega)
            have hr := HR.out
            have hx := HX.out
            simpa [hr, hx] using hfin
          · have HR : Hid (r fr = true) := hrf
            rw [hrf] at hlk
            clear hrf
            go_wp2_with fail
            go_region
            have hC75 := hC7.drew
            clear hC7 hlk t6 b1
            have t5 := cell_at (i := 5) hC75.tal.blk rfl
            have f5 := free_at (i := 5) hC75.tal.blk
            have hC8 := hC75.set 5 (.int .i64 (du + 1)) rfl
            clear hC75
            generalize W7.drew = W75 at hC8 t5 f5 ⊢
            go_wp2_with fail
            clear t5 f5
            generalize W75.setCell ⟨T, 5, none⟩ (.int .i64 (du + 1)) = W8 at hC8 ⊢
            obtain ⟨w9, hr9, ht9, hg9, _⟩ := hC8.drew.tal.rchdStore (by unfold maxLen; omega) hfr
            have hC9 := hC8.drew.step ht9 hg9 (.inr (.inr (.inr rfl)))
            have t6 := cell_at (i := 6) hC8.tal.blk rfl
            have b1 := cell_at (i := 1) hC8.box rfl
            clear ht9 hg9 hC8
            go_wp2_with fail
            go_region
            go_wp2
            go_end0
            refine ⟨rfl, ?_, hC9.bel⟩
            have hfin := hC9.tal.mono (N' := N + k + 2) (by omega)
            have hr := HR.out
            have hx := HX.out
            simpa [hr, hx] using hfin
        · have b5 := cell_at (i := 5) hC6.box rfl
          have t4 := cell_at (i := 4) hC6.tal.blk rfl
          have f4 := free_at (i := 4) hC6.tal.blk
          have hC7 := hC6.set 4 (.int .i64 (ms + k - 1)) rfl
          clear hC6
          go_wp2
          refine bodyPost_ret (v := .tuple #[]) (by simp [results, Yba.results12]) rfl ⟨rfl, ?_, hC7.bel⟩
          have hfin := hC7.tal.mono (N' := N + k + 2) (by omega)
          simpa using hfin
      · have t8 := cell_at (i := 8) hCk.tal.blk rfl
        have f8 := free_at (i := 8) hCk.tal.blk
        have b6 := cell_at (i := 6) hCk.box rfl
        have hC5 := hCk.set 8 (.bool true) rfl
        clear hCk hS
        go_wp2_with fail
        clear t8 f8 b6
        generalize wr.setCell ⟨T, 8, none⟩ (.bool true) = W5 at hC5 ⊢
        have t4 := cell_at (i := 4) hC5.tal.blk rfl
        have f4 := free_at (i := 4) hC5.tal.blk
        have b4 := cell_at (i := 4) hC5.box rfl
        have hC6 := (hC5.set 4 (.int .i64 (ms + k)) rfl).drew
        clear hC5
        go_region
        clear t4 f4 b4
        generalize (W5.setCell ⟨T, 4, none⟩ (.int .i64 (ms + k))).drew = W6 at hC6 ⊢
        cases lo
        · have b5 := cell_at (i := 5) hC6.box rfl
          go_wp2_with fail
          have t3 := cell_at (i := 3) hC6.tal.blk rfl
          have f3 := free_at (i := 3) hC6.tal.blk
          have b3 := cell_at (i := 3) hC6.box rfl
          have hC7 := (hC6.set 3 (.int .i64 (if dp < d then d else dp)) rfl).drew
          clear hC6 b5
          go_region
          clear t3 f3 b3
          generalize hmx : (if dp < d then d else dp) = mx at hC7 ⊢
          have HX : Hid (max dp d = mx) := by show max dp d = mx; rw [← hmx]; split <;> omega
          clear hmx
          generalize (W6.setCell ⟨T, 3, none⟩ (.int .i64 mx)).drew = W7 at hC7 ⊢
          have t6 := cell_at (i := 6) hC7.tal.blk rfl
          have b1 := cell_at (i := 1) hC7.box rfl
          have hlk := hC7.drew.tal.rchdLook hfr
          cases hrf : r fr
          · have HR : Hid (r fr = false) := hrf
            rw [hrf] at hlk
            clear hrf
            go_wp2_with fail
            go_region
            have hC8 := hC7.drew
            clear hC7 hlk t6 b1
            go_wp2_with fail
            generalize W7.drew = W8 at hC8 ⊢
            obtain ⟨w9, hr9, ht9, hg9, _⟩ := hC8.drew.tal.rchdStore (by unfold maxLen; omega) hfr
            have hC9 := hC8.drew.step ht9 hg9 (.inr (.inr (.inr rfl)))
            have t6 := cell_at (i := 6) hC8.tal.blk rfl
            have b1 := cell_at (i := 1) hC8.box rfl
            clear ht9 hg9 hC8
            go_wp2_with fail
            go_region
            go_wp2
            go_end0
            refine ⟨rfl, ?_, hC9.bel⟩
            have hfin := hC9.tal.mono (N' := N + k + 2) (by omega)
            have hr := HR.out
            have hx := HX.out
            simpa [hr, hx] using hfin
          · have HR : Hid (r fr = true) := hrf
            rw [hrf] at hlk
            clear hrf
            go_wp2_with fail
            go_region
            have hC75 := hC7.drew
            clear hC7 hlk t6 b1
            have t5 := cell_at (i := 5) hC75.tal.blk rfl
            have f5 := free_at (i := 5) hC75.tal.blk
            have hC8 := hC75.set 5 (.int .i64 (du + 1)) rfl
            clear hC75
            generalize W7.drew = W75 at hC8 t5 f5 ⊢
            go_wp2_with fail
            clear t5 f5
            generalize W75.setCell ⟨T, 5, none⟩ (.int .i64 (du + 1)) = W8 at hC8 ⊢
            obtain ⟨w9, hr9, ht9, hg9, _⟩ := hC8.drew.tal.rchdStore (by unfold maxLen; omega) hfr
            have hC9 := hC8.drew.step ht9 hg9 (.inr (.inr (.inr rfl)))
            have t6 := cell_at (i := 6) hC8.tal.blk rfl
            have b1 := cell_at (i := 1) hC8.box rfl
            clear ht9 hg9 hC8
            go_wp2_with fail
            go_region
            go_wp2
            go_end0
            refine ⟨rfl, ?_, hC9.bel⟩
            have hfin := hC9.tal.mono (N' := N + k + 2) (by omega)
            have hr := HR.out
            have hx := HX.out
            simpa [hr, hx] using hfin
        · have b5 := cell_at (i := 5) hC6.box rfl
          have t4 := cell_at (i := 4) hC6.tal.blk rfl
          have f4 := free_at (i := 4) hC6.tal.blk
          have hC7 := hC6.set 4 (.int .i64 (ms + k - 1)) rfl
          clear hC6
          go_wp2
          refine bodyPost_ret (v := .tuple #[]) (by simp [results, Yba.results12]) rfl ⟨rfl, ?_, hC7.bel⟩
          have hfin := hC7.tal.mono (N' := N + k + 2) (by omega)
          simpa using hfin
end Go.Proofs.Ybulkrku
