import Derived.Test.YbulkrkuFmtStrD
import Derived.Test.YbulkrkuFmtListE
import Derived.Deep.OwnRows
namespace Go.Proofs.YbulkrkuFmt
open Go.RowKit

/-- the wire form of m strings from k on -/
def encFrom (S : Nat → ByteArray) (k : Nat) : Nat → List UInt8
  | 0 => []
  | m + 1 => uv (S k).size ++ ((S k).data.toList ++ encFrom S (k + 1) m)
theorem encL_from (S : Nat → ByteArray) : ∀ (m k : Nat), encL S (k + m) = encL S k ++ encFrom S k m
  | 0, k => by simp [encFrom]
  | m + 1, k => by
    rw [show k + (m + 1) = (k + 1) + m by omega, encL_from S m (k + 1)]
    simp [encL, encFrom]
theorem encFrom_len (S : Nat → ByteArray) : ∀ (m k : Nat), m ≤ (encFrom S k m).length
  | 0, k => by simp
  | m + 1, k => by
    have h1 := encFrom_len S m (k + 1)
    have h2 := uv_pos (S k).size
    simp only [encFrom, List.length_append]
    omega

/-- the first k of them -/
def upto (S : Nat → ByteArray) (k i : Nat) : ByteArray := if i < k then S i else ⟨#[]⟩
theorem upto_set (S : Nat → ByteArray) (n k : Nat) (hk : k < n) : (strVals n (upto S k)).toArray.setIfInBounds k (.string (S k)) = (strVals n (upto S (k + 1))).toArray := by
  apply Array.toList_inj.1
  simp only [Array.toList_setIfInBounds]
  apply List.ext_getElem?
  intro i
  rw [List.getElem?_set]
  by_cases h : k = i
  · subst h
    rw [if_pos rfl, if_pos (by rw [strVals_length]; exact hk), strVals_get _ hk]
    simp [upto]
  · rw [if_neg h]
    by_cases hi : i < n
    · rw [strVals_get _ hi, strVals_get _ hi]
      congr 2
      unfold upto
      by_cases h2 : i < k
      · rw [if_pos h2, if_pos (by omega)]
      · rw [if_neg h2, if_neg (by omega)]
    · rw [List.getElem?_eq_none (by rw [strVals_length]; omega), List.getElem?_eq_none (by rw [strVals_length]; omega)]
theorem upto_all (S : Nat → ByteArray) (n : Nat) : strVals n (upto S n) = strVals n S := by
  unfold strVals
  apply List.map_congr_left
  intro i hi
  rw [upto, if_pos (List.mem_range.1 hi)]
theorem upto_none (S : Nat → ByteArray) (n k : Nat) (h : k < n) : (strVals n (upto S k)).toArray[k]? = some (.string ⟨#[]⟩) := by
  have := strVals_get (upto S k) h
  simpa [upto] using this

/-- what the decoding of a list leaves -/
def ListD (B C V g : Nat) (cs : Array Value) (tail : ByteArray) (some? : Bool) (n : Nat) (S : Nat → ByteArray) (rest : List UInt8) (w : World) (e : Ending) (w' : World) : Prop :=
  e = .returned (.tuple #[]) ∧ (∃ bv, BV g cs bv rest ∧ w'.heap[C]? = some (coder bv tail)) ∧
  (∃ xa, xa.isNone = !some? ∧ ListAt w' V xa n S) ∧ Same2 B C V w w'

set_option maxHeartbeats 400000 in
theorem listD_nil (B C V g : Nat) (cs : Array Value) (bv : Value) (rest : List UInt8) (tail : ByteArray) (S : Nat → ByteArray) (w : World) (hC : w.heap[C]? = some (.cells #[bv, .bool true, .nilIface, .string tail] 30 (0, 0)))
    (hV : w.heap[V]? = some (.cells #[.slice none 0 0] 23 (0, 0))) (hg : w.heap[g]? = some (.cells cs 5 (0, 0))) (hb : BV g cs bv (uv 0 ++ rest)) (hBC : B ≤ C) (hB : B ≤ w.heap.size) :
    Calls Ybaf.prog 14 #[.pointer (some ⟨C, 0, none⟩), .pointer (some ⟨V, 0, none⟩), .func (.func 15) #[.pointer (some ⟨C, 0, none⟩)] #[]] w fun e w' => ListD B C V g cs tail false 0 S rest w e w' := by
  have hV' := block_old hV (.cells #[.int .u64 0] 43)
  have va := cell_at (i := 0) hV' rfl
  have e1 := fun w' => run_neq_slice_nil_any (P := Ybaf.prog) w' 23 9 none 0 0 0 0 Ybaf.underlying23
  have hVC := ne_of_type hV hC (by decide)
  have hltV := lt_of_block hV
  go_enter Ybaf.func14, Ybaf.ntmps14
  go_wp2_with fail
  refine (uintD_any B C w.heap.size g 0 _ cs bv rest tail _ (show 0 < 268435456 by omega) (block_old hC _) (block_new _ _) (block_old hg _) hb hBC hB).mono ?_
  rintro e w1 ⟨rfl, ⟨bv1, hbv1, hC1⟩, hN1, hS1⟩
  have hV1 := hS1.cells hV' hVC (by omega)
  have c1 := cell_at (i := 1) hC1 rfl
  have c2 := cell_at (i := 2) hC1 rfl
  have n1 := cell_at (i := 0) hN1 rfl
  go_wp2
  refine bodyPost_ret (v := .tuple #[]) (by simp [results, Ybaf.results14]) rfl ?_
  refine ⟨rfl, ⟨bv1, hbv1, hC1⟩, ⟨none, rfl, hV1, .inl ⟨rfl, rfl⟩⟩, ((Below.refl B w).alloc hB _).trans hS1.below, fun k h1 h2 h3 => ?_⟩
  rw [hS1.same k h1 (by omega) (by simp; omega), Below.heap_alloc _ _ _ h3]

/-- the world in the loop of the decoding of a list -/
structure LoopD (B C V g G n k : Nat) (cs : Array Value) (tail : ByteArray) (S : Nat → ByteArray) (extra : List UInt8) (w wr : World) : Prop where
  buf : ∃ bv, BV g cs bv (encFrom S k (n - k) ++ extra) ∧ wr.heap[C]? = some (coder bv tail)
  lst : wr.heap[V]? = some (.cells #[.slice (some ⟨G, 0, none⟩) n n] 23 (0, 0))
  dat : wr.heap[g]? = some (.cells cs 5 (0, 0))
  row : wr.heap[G]? = some (.cells (strVals n (upto S k)).toArray 9 (0, 0))
  same : Same2 B C V w wr
theorem made_upto (n : Nat) (S : Nat → ByteArray) : madeCells #[.string ⟨#[]⟩] n = (strVals n (upto S 0)).toArray := by
  apply Array.toList_inj.1
  rw [toList_madeCells_one]
  apply List.ext_getElem?
  intro i
  by_cases h : i < n
  · rw [strVals_get _ h]
    simp [h, upto]
  · rw [List.getElem?_eq_none (by simp; omega), List.getElem?_eq_none (by rw [strVals_length]; omega)]
theorem LoopD.step {B C V g G n k : Nat} {cs : Array Value} {tail : ByteArray} {S : Nat → ByteArray} {extra : List UInt8} {w wr w' : World} {e : Ending} (h : LoopD B C V g G n k cs tail S extra w wr) (hk : k < n) (hGV : G ≠ V) (hVC : V ≠ C) (hG : w.heap.size ≤ G)
    (hs : StrD B C G k g cs (strVals n (upto S k)).toArray tail (S k) (encFrom S (k + 1) (n - (k + 1)) ++ extra) wr e w') : LoopD B C V g G n (k + 1) cs tail S extra w w' := by
  obtain ⟨rfl, hb, hr, hs⟩ := hs
  have hgC : g ≠ C := fun e => by obtain ⟨bv, _, hc⟩ := h.buf; have := h.dat; rw [e, hc] at this; simp [coder] at this
  have hgG : g ≠ G := fun e => by have := h.dat; rw [e, h.row] at this; simp at this
  refine ⟨hb, hs.cells h.lst hVC (fun e => hGV e.symm), hs.cells h.dat hgC hgG, by rw [hr, upto_set S n k hk], h.same.below.trans hs.below, fun j h1 h2 h3 => ?_⟩
  rw [hs.same j h1 (by omega) (Nat.lt_of_lt_of_le h3 h.same.below.size), h.same.same j h1 h2 h3]

set_option maxHeartbeats 400000 in
theorem listD_some (B C V g n : Nat) (cs : Array Value) (bv : Value) (extra : List UInt8) (tail : ByteArray) (S : Nat → ByteArray) (w : World) (hC : w.heap[C]? = some (.cells #[bv, .bool true, .nilIface, .string tail] 30 (0, 0)))
    (hV : w.heap[V]? = some (.cells #[.slice none 0 0] 23 (0, 0))) (hg : w.heap[g]? = some (.cells cs 5 (0, 0))) (hb : BV g cs bv (uv (n + 1) ++ (encL S n ++ extra))) (hBC : B ≤ C) (hBV : B ≤ V) (hB : B ≤ w.heap.size)
    (ht : tail.data.toList = uv (n + 1) ++ (encL S n ++ extra)) (hn : n ≤ 1024) (hz : tail.size ≤ 50000000) :
    Calls Ybaf.prog 14 #[.pointer (some ⟨C, 0, none⟩), .pointer (some ⟨V, 0, none⟩), .func (.func 15) #[.pointer (some ⟨C, 0, none⟩)] #[]] w fun e w' => ListD B C V g cs tail true n S extra w e w' := by
  obtain ⟨i9, hi, hz0, hz1, hz2⟩ := info_parts info9
  have hV' := block_old hV (.cells #[.int .u64 0] 43)
  have va := cell_at (i := 0) hV' rfl
  have e1 := fun w' => run_neq_slice_nil_any (P := Ybaf.prog) w' 23 9 none 0 0 0 0 Ybaf.underlying23
  have hVC := ne_of_type hV hC (by decide)
  have hgV := ne_of_type hg hV (by decide)
  have hgC := ne_of_type hg hC (by decide)
  have hltV := lt_of_block hV
  have hltg := lt_of_block hg
  have hltC := lt_of_block hC
  go_enter Ybaf.func14, Ybaf.ntmps14
  go_wp2_with fail
  refine (uintD_any B C w.heap.size g (n + 1) _ cs bv (encL S n ++ extra) tail _ (show n + 1 < 268435456 by omega) (block_old hC _) (block_new _ _) (block_old hg _) hb hBC hB).mono ?_
  rintro e w1 ⟨rfl, ⟨bv1, hbv1, hC1⟩, hN1, hS1⟩
  have hV1 := hS1.cells hV' hVC (by omega)
  have hg1 := hS1.cells (block_old hg _) hgC (by omega)
  have Hbv1 : Hid (BV g cs bv1 (encL S n ++ extra)) := hbv1
  obtain ⟨off1, cap1, hbe1, _⟩ := hbv1
  have hll : n ≤ (encL S n ++ extra).length := by
    have h1 := encFrom_len S n 0
    have h2 := encL_from S n 0
    rw [Nat.zero_add] at h2
    rw [h2, List.length_append, List.length_append]
    omega
  have htl : (encL S n ++ extra).length ≤ tail.size := by
    have := congrArg List.length ht
    rw [List.length_append] at this
    simp at this ⊢
    omega
  generalize hlr : (encL S n ++ extra).length = lr at *
  subst hbe1
  have c1 := cell_at (i := 1) hC1 rfl
  have c2 := cell_at (i := 2) hC1 rfl
  have c0 := cell_at (i := 0) hC1 rfl
  have n1 := cell_at (i := 0) hN1 rfl
  have v1 := cell_at (i := 0) hV1 rfl
  have f1 := free_at (i := 0) hV1
  have hsz1 : w.heap.size < w1.heap.size := by have := hS1.below.size; simp at this; omega
  have t1 : decide ((lr : Int) < (n : Int)) = false := by simp; omega
  go_wp2_with fail
  go_quiet (fail)
  have hS2 : Same2 B C w.heap.size (w.alloc (.cells #[.int .u64 0] 43)) (w1.drewN nq) := ⟨⟨hS1.below.os, hS1.below.tape, hS1.below.output, hS1.below.size, hS1.below.block⟩, hS1.same⟩
  have hC2 : (w1.drewN nq).heap[C]? = some (coder (.slice (some ⟨g, off1, none⟩) lr cap1) tail) := hC1
  have hV2 : (w1.drewN nq).heap[V]? = some (.cells #[.slice none 0 0] 23 (0, 0)) := hV1
  have hg2 : (w1.drewN nq).heap[g]? = some (.cells cs 5 (0, 0)) := hg1
  have n2 : (w1.drewN nq).cell? ⟨w.heap.size, 0, none⟩ = some (.int .u64 (n + 1 : Nat)) := n1
  have hsz2 : w.heap.size < (w1.drewN nq).heap.size := hsz1
  clear hS1 hC1 hV1 hg1 hsz1 c0 c1 c2 n1 v1 f1 hN1
  generalize w1.drewN nq = w2 at *
  have hV3 := block_old hV2 (.cells (madeCells #[.string ⟨#[]⟩] n) 9)
  have v3 := cell_at (i := 0) hV3 rfl
  have f3 := free_at (i := 0) hV3
  go_wp2_with (at_make; go_must (refine wpList_make_row _ rfl _ _ 23 rfl 9 i9 _ Ybaf.underlying23 hi hz0 hz1 rfl .u64 .u64 n rfl rfl (by rw [hz2]; omega) (by omega) ?_))
  have hG2 : w2.heap.size ≠ C := by have := lt_of_block hC2; omega
  have hGV : w2.heap.size ≠ V := by have := lt_of_block hV2; omega
  have hGg : w2.heap.size ≠ g := by have := lt_of_block hg2; omega
  have hL0 : LoopD B C V g w2.heap.size n 0 cs tail S extra w ((w2.alloc (.cells (madeCells #[.string ⟨#[]⟩] n) 9)).setCell ⟨V, 0, none⟩ (.slice (some ⟨w2.heap.size, 0, none⟩) n n)) := by
    refine ⟨⟨_, ?_, block_other (block_old hC2 _) (a := ⟨V, 0, none⟩) (fun e => hVC e.symm) _⟩, ?_, block_other (block_old hg2 _) (a := ⟨V, 0, none⟩) hgV _, ?_, ?_, ?_⟩
    · have h2 := encL_from S n 0
      rw [Nat.zero_add] at h2
      have h3 := Hbv1.out
      rw [h2] at h3
      simpa [encL] using h3
    · have := block_set (i := 0) (block_old hV2 (.cells (madeCells #[.string ⟨#[]⟩] n) 9)) (.slice (some ⟨w2.heap.size, 0, none⟩) n n)
      simpa using this
    · rw [← made_upto n S]
      exact block_other (block_new _ _) (a := ⟨V, 0, none⟩) hGV _
    · exact ((((Below.refl B w).alloc hB _).trans hS2.below).alloc (by omega) _).setCell (p := ⟨V, 0, none⟩) hBV _
    · intro k h1 h2 h3
      rw [Below.heap_setCell _ _ _ _ h2, Below.heap_alloc _ _ _ (by omega), hS2.same k h1 (by omega) (by simp; omega), Below.heap_alloc _ _ _ h3]
  have hGw : w.heap.size ≤ w2.heap.size := by omega
  clear hS2 hC2 hV2 hg2 n2 hsz2 hV3 v3 f3 Hbv1
  generalize (w2.alloc (.cells (madeCells #[.string ⟨#[]⟩] n) 9)).setCell ⟨V, 0, none⟩ (.slice (some ⟨w2.heap.size, 0, none⟩) n n) = w3 at *
  generalize w2.heap.size = G at *
  have Ht : Hid (tail.data.toList = uv (n + 1) ++ (encL S n ++ extra)) := ht
  have htn : tail.size ≠ 0 := by
    have h1 := congrArg List.length ht
    have h2 := uv_pos (n + 1)
    rw [List.length_append] at h1
    simp at h1
    omega
  clear ht hb hlr
  go_loopw [63] (fun i wr => ∃ k : Nat, k ≤ n ∧ i = .int .i64 k ∧ LoopD B C V g G n k cs tail S extra w wr) (fun i _ => n - (intOf i).toNat)
  case atStart => exact ⟨0, Nat.zero_le _, rfl, hL0⟩
  case round =>
    obtain ⟨k, hk, rfl, hL⟩ := hrel
    clear hL0
    by_cases hlt : k < n
    · obtain ⟨bvk, hbk, hCk⟩ := hL.buf
      have vk := cell_at (i := 0) hL.lst rfl
      have i0 : (0 : Int) ≤ (k : Int) := Int.natCast_nonneg _
      have i1 : (k : Int) < (n : Int) := by omega
      have hnk : n - k = (n - (k + 1)) + 1 := by omega
      have hbk' : BV g cs bvk (uv (S k).size ++ ((S k).data.toList ++ (encFrom S (k + 1) (n - (k + 1)) ++ extra))) := by
        rw [hnk] at hbk
        simpa [encFrom] using hbk
      have htk : tail.data.toList = (uv (n + 1) ++ (encL S k ++ uv (S k).size)) ++ ((S k).data.toList ++ (encFrom S (k + 1) (n - (k + 1)) ++ extra)) := by
        have h2 := encL_from S (n - k) k
        rw [show k + (n - k) = n by omega, hnk] at h2
        rw [Ht.out, h2]
        simp [encFrom]
      have hszk : B ≤ wr.heap.size := Nat.le_trans hB hL.same.below.size
      clear hbk
      have HT : Hid (tail.data.toList = (uv (n + 1) ++ (encL S k ++ uv (S k).size)) ++ ((S k).data.toList ++ (encFrom S (k + 1) (n - (k + 1)) ++ extra))) := htk
      clear htk
      go_wp2_with fail
      refine (strD_any B C G k g (S k) cs (strVals n (upto S k)).toArray bvk _ _ tail wr hCk hL.row (upto_none S n k hlt) hL.dat hbk' hBC (by omega) hszk HT.out htn hz).mono ?_
      intro e w4 hst
      have hL' := hL.step hlt hGV hVC hGw hst
      obtain ⟨rfl, ⟨bv4, hb4, hC4⟩, _, _⟩ := hst
      have d2 := cell_at (i := 2) hC4 rfl
      go_wp2
      go_roundw
      case rel => exact ⟨k + 1, by omega, by go_num, hL'⟩
      case measure => simp [intOf]; omega
    · obtain rfl : k = n := by omega
      go_wp2
      go_end0
      refine ⟨rfl, by simpa [encFrom] using hL.buf, ⟨some ⟨G, 0, none⟩, rfl, hL.lst, .inr ⟨G, rfl, ?_⟩⟩, hL.same⟩
      have := hL.row
      rwa [upto_all] at this
end Go.Proofs.YbulkrkuFmt
