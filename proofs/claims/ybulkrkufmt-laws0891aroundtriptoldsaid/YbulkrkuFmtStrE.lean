import Derived.Test.YbulkrkuFmtCoE
namespace Go.Proofs.YbulkrkuFmt
open Go.RowKit
attribute [local go_sem ↓] Go.wp_at_zero Go.wp_at_succ

set_option maxHeartbeats 400000 in
theorem strE_any (C B b off : Nat) (v : Value) (l : List UInt8) (s : ByteArray) (w : World) (hC : CoE w C B v l) (cs : Array Value) (hb : w.heap[b]? = some (.cells cs 9 (0, 0))) (hs : cs[off]? = some (.string s)) (hB : B ≤ w.heap.size) (hBC : B ≤ C) (hz : s.size ≤ 1048576) (hl : l.length ≤ 10000000) :
    Calls Ybaf.prog 15 #[.pointer (some ⟨C, 0, none⟩), .pointer (some ⟨b, off, none⟩)] w fun e w' => EncPost w C B (l ++ uv s.size ++ s.data.toList) e w' := by
  have c0 := cell_at (i := 0) hC.blk rfl
  have c1 := cell_at (i := 1) hC.blk rfl
  have v0 := cell_at (i := off) hb hs
  go_enter Ybaf.func15, Ybaf.ntmps15
  go_wp2_with fail
  refine (uintE_any C w.heap.size B v l s.size _ (show s.size < 128 ^ 10 by omega) (hC.alloc _) (block_new _ _) (by simp; omega) hBC (by omega)).mono ?_
  have hul := uv_le s.size
  rintro e w1 ⟨rfl, v1, hC1, hbel1, hk1⟩
  generalize hl1 : l ++ uv s.size = l1 at hC1 ⊢
  have hl1' : l1.length ≤ 10000010 := by rw [← hl1, List.length_append]; omega
  have HL : Hid (l1 = l ++ uv s.size) := hl1.symm
  clear hl1
  have hbC : b ≠ C := fun e => by subst e; rw [hC.blk] at hb; simp at hb
  have hb1 := hk1.cells (block_old hb _) (by decide) hbC
  have d0 := cell_at (i := 0) hC1.blk rfl
  have d1 := cell_at (i := 1) hC1.blk rfl
  have u0 := cell_at (i := off) hb1 hs
  have f0 := free_at (i := 0) hC1.blk
  have hsz : w.heap.size ≤ w1.heap.size := by have := hbel1.size; simp at this; omega
  obtain ⟨a1, p1, hs1⟩ := hC1.buf.shape
  subst hs1
  go_wp2_with fail
  go_region_law (refine step_append_bufO_string _ rfl _ _ rfl B (.slice a1 l1.length p1) l1 (by rfl) hC1.buf.drew s (by rfl) (by omega) (by have := hbel1.size; simp at this ⊢; omega) ?_; intro v2 w2 hb2 hg2; have g0 := cell_at (i := 0) (Keep5.cells (Keep5.grown (Keep5.refl _) hC1.buf.drew hg2) hC1.drew.blk (by decide)) rfl; have h0 := free_at (i := 0) (Keep5.cells (Keep5.grown (Keep5.refl _) hC1.buf.drew hg2) hC1.drew.blk (by decide)); obtain ⟨a2, p2, hs2⟩ := hb2.shape; subst hs2)
  all_goals
    have hk2 : Keep5 w1 w2 := Keep5.grown (Keep5.refl w1).drew hC1.buf.drew hg2
    have hbel2 : Below B w w2 := ((((Below.refl B w).alloc hB _).trans hbel1).drew).grown hg2 (by show B ≤ w1.heap.size; omega) (fun j hj => (World.ownsRow.lt hC1.buf j hj).1)
    have hst := CoE.stored hC1 hk2 hb2
    have hbe := hbel2.setCell (p := ⟨C, 0, none⟩) hBC (.slice a2 (l1 ++ s.data.toList).length p2)
    have hkc := (((KeepC.refl C w).alloc (.cells #[.int .u64 s.size] 43)).trans (hk1.trans (KeepC.of5 (C := C) hk2))).set 0 (.slice a2 (l1 ++ s.data.toList).length p2)
    go_wp2
    refine bodyPost_ret (v := .tuple #[]) (by simp [results, Ybaf.results15]) rfl ?_
    rw [List.length_append, show s.data.toList.length = s.size by simp] at hst hbe hkc
    exact ⟨rfl, _, by rw [← HL.out]; exact hst, hbe, hkc⟩
end Go.Proofs.YbulkrkuFmt
