import Derived.Test.YbulkrkuFmtStrE
namespace Go.Proofs.YbulkrkuFmt
open Go.RowKit
attribute [local go_sem ↓] Go.wp_at_zero Go.wp_at_succ

/-- a list behind a pointer: nil, or a row of strings of its own -/
def ListAt (w : World) (V : Nat) (xa : Option Addr) (n : Nat) (S : Nat → ByteArray) : Prop :=
  w.heap[V]? = some (.cells #[.slice xa n n] 23 (0, 0)) ∧ ((xa = none ∧ n = 0) ∨ ∃ g, xa = some ⟨g, 0, none⟩ ∧ w.heap[g]? = some (.cells (strVals n S).toArray 9 (0, 0)))

set_option maxHeartbeats 400000 in
theorem listE_nil (C B V : Nat) (v : Value) (l : List UInt8) (w : World) (hC : CoE w C B v l) (hV : w.heap[V]? = some (.cells #[.slice none 0 0] 23 (0, 0))) (hB : B ≤ w.heap.size) (hBC : B ≤ C) (hl : l.length ≤ 5000000) :
    Calls Ybaf.prog 14 #[.pointer (some ⟨C, 0, none⟩), .pointer (some ⟨V, 0, none⟩), .func (.func 15) #[.pointer (some ⟨C, 0, none⟩)] #[]] w fun e w' => EncPost w C B (l ++ uv 0) e w' := by
  have c0 := cell_at (i := 0) hC.blk rfl
  have c1 := cell_at (i := 1) hC.blk rfl
  have v0 := cell_at (i := 0) hV rfl
  have hV' := block_old hV (.cells #[.int .u64 0] 43)
  have va := cell_at (i := 0) hV' rfl
  have e1 := fun w' => run_neq_slice_nil_any (P := Ybaf.prog) w' 23 9 none 0 0 0 0 Ybaf.underlying23
  go_enter Ybaf.func14, Ybaf.ntmps14
  go_wp2_with fail
  refine (uintE_any C w.heap.size B v l 0 _ (show 0 < 128 ^ 10 by omega) (hC.alloc _) (block_new _ _) (by simp; omega) hBC (by omega)).mono ?_
  rintro e w1 ⟨rfl, v1, hC1, hbel1, hk1⟩
  have hVC : V ≠ C := fun e => by subst e; rw [hC.blk] at hV; simp at hV
  have hV1 := hk1.cells hV' (by decide) hVC
  have d1 := cell_at (i := 1) hC1.blk rfl
  have d2 := cell_at (i := 2) hC1.blk rfl
  have w0 := cell_at (i := 0) hV1 rfl
  go_wp2
  go_loopw [63] (fun i wr => i = .int .i64 0 ∧ wr = w1) (fun _ _ => 0)
  case atStart => exact ⟨rfl, rfl⟩
  case round =>
    obtain ⟨rfl, rfl⟩ := hrel
    go_wp2
    go_end0
    exact ⟨rfl, v1, hC1, ((Below.refl B w).alloc hB _).trans hbel1, ((KeepC.refl C w).alloc _).trans hk1⟩

set_option maxHeartbeats 400000 in
theorem listE_some (C B V g n : Nat) (S : Nat → ByteArray) (v : Value) (l : List UInt8) (w : World) (hC : CoE w C B v l) (hV : w.heap[V]? = some (.cells #[.slice (some ⟨g, 0, none⟩) n n] 23 (0, 0))) (hG : w.heap[g]? = some (.cells (strVals n S).toArray 9 (0, 0))) (hn : n ≤ 1024) (ht : tot S n ≤ 1048576) (hB : B ≤ w.heap.size) (hBC : B ≤ C) (hl : l.length ≤ 5000000) :
    Calls Ybaf.prog 14 #[.pointer (some ⟨C, 0, none⟩), .pointer (some ⟨V, 0, none⟩), .func (.func 15) #[.pointer (some ⟨C, 0, none⟩)] #[]] w fun e w' => EncPost w C B (l ++ uv (n + 1) ++ encL S n) e w' := by
  have c0 := cell_at (i := 0) hC.blk rfl
  have c1 := cell_at (i := 1) hC.blk rfl
  have v0 := cell_at (i := 0) hV rfl
  have hV' := block_old hV (.cells #[.int .u64 0] 43)
  have hG' := block_old hG (.cells #[.int .u64 0] 43)
  have va := cell_at (i := 0) hV' rfl
  have e1 := fun w' => run_neq_slice_nil_any (P := Ybaf.prog) w' 23 9 (some ⟨g, 0, none⟩) n n 0 0 Ybaf.underlying23
  simp only [Option.isNone_some, Bool.not_false] at e1
  go_enter Ybaf.func14, Ybaf.ntmps14
  go_wp2_with fail
  rw [show ((n : Int) + 1) = ((n + 1 : Nat) : Int) by omega]
  refine (uintE_any C w.heap.size B v l (n + 1) _ (show n + 1 < 128 ^ 10 by omega) (hC.alloc _) (block_new _ _) (by simp; omega) hBC (by omega)).mono ?_
  rintro e w1 ⟨rfl, v1, hC1, hbel1, hk1⟩
  have hVC : V ≠ C := fun e => by subst e; rw [hC.blk] at hV; simp at hV
  have hGC : g ≠ C := fun e => by subst e; rw [hC.blk] at hG; simp at hG
  have hV1 := hk1.cells (block_old hV _) (by decide) hVC
  have hG1 := hk1.cells (block_old hG _) (by decide) hGC
  have hB1 : Below B w w1 := ((Below.refl B w).alloc hB _).trans hbel1
  have hK1 : KeepC C w w1 := ((KeepC.refl C w).alloc _).trans hk1
  have hul := uv_le (n + 1)
  have hul' : (l ++ uv (n + 1)).length ≤ 5000010 := by rw [List.length_append]; omega
  generalize hl1 : l ++ uv (n + 1) = l1 at hC1 hul'
  have HL : Hid (l ++ uv (n + 1) = l1) := hl1
  clear hl1
  clear hbel1 hk1 hul
  have d1 := cell_at (i := 1) hC1.blk rfl
  have d2 := cell_at (i := 2) hC1.blk rfl
  have w0 := cell_at (i := 0) hV1 rfl
  go_wp2
  go_loopw [63] (fun i wr => ∃ (k : Nat) (vk : Value), k ≤ n ∧ i = .int .i64 k ∧ CoE wr C B vk (l1 ++ encL S k) ∧ Below B w1 wr ∧ Hid (KeepC C w1 wr)) (fun i _ => n - (intOf i).toNat)
  case atStart => exact ⟨0, v1, Nat.zero_le _, rfl, by simpa [encL] using hC1, Below.refl _ _, KeepC.refl _ _⟩
  case round =>
    obtain ⟨k, vk, hk, rfl, hCk, hBk, hKk⟩ := hrel
    clear hC1 d1 d2 w0
    by_cases hlt : k < n
    · have hVk := hKk.out.cells hV1 (by decide) hVC
      have hGk := hKk.out.cells hG1 (by decide) hGC
      have w0 := cell_at (i := 0) hVk rfl
      have i0 : (0 : Int) ≤ (k : Int) := Int.natCast_nonneg _
      have i1 : (k : Int) < (n : Int) := by omega
      go_wp2_with fail
      have hlen := encL_length S k
      have htk := tot_mono S hk
      have ht1 := tot_one S hlt
      refine (strE_any C B g k vk (l1 ++ encL S k) (S k) _ hCk _ hGk (by simpa using strVals_get S hlt) (Nat.le_trans hB (Nat.le_trans hB1.size hBk.size)) hBC (by omega) (by rw [List.length_append]; omega)).mono ?_
      rintro e w2 ⟨rfl, v2, hC2, hbel2, hk2⟩
      have d2 := cell_at (i := 2) hC2.blk rfl
      have hK2 : Hid (KeepC C w1 w2) := hKk.out.trans hk2
      clear hk2
      go_wp2
      go_roundw
      case rel => exact ⟨k + 1, v2, by omega, by go_num, by simpa [encL] using hC2, hBk.trans hbel2, hK2⟩
      case measure => simp [intOf]; omega
    · go_wp2
      go_end0
      obtain rfl : k = n := by omega
      exact ⟨rfl, vk, by rw [HL.out]; exact hCk, hB1.trans hBk, hK1.trans hKk.out⟩
end Go.Proofs.YbulkrkuFmt
