import Derived.Test.YbulkrkuFmtTakeD
namespace Go.Proofs.YbulkrkuFmt
open Go.RowKit

theorem Same2.cells {B C V : Nat} {w w' : World} (h : Same2 B C V w w') {k : Nat} {o : Obj} (hk : w.heap[k]? = some o) (h1 : k ≠ C) (h2 : k ≠ V) : w'.heap[k]? = some o := (h.same k h1 h2 (lt_of_block hk)).trans hk
theorem ne_of_type {w : World} {a b : Nat} {x y : Array Value} {s t : TypeId} {f f' : Nat × Nat} (h : w.heap[a]? = some (.cells x s f)) (h' : w.heap[b]? = some (.cells y t f')) (hn : s ≠ t) : a ≠ b := fun e => by
  subst e
  rw [h] at h'
  simp at h'
  exact hn h'.2.1

def StrD (B C b off g : Nat) (cs vs : Array Value) (tail s : ByteArray) (rest : List UInt8) (w : World) (e : Ending) (w' : World) : Prop :=
  e = .returned (.tuple #[]) ∧ (∃ bv, BV g cs bv rest ∧ w'.heap[C]? = some (coder bv tail)) ∧ w'.heap[b]? = some (.cells (vs.setIfInBounds off (.string s)) 9 (0, 0)) ∧ Same2 B C b w w'

theorem cut_tail (tail s : ByteArray) (pre rest : List UInt8) (h : tail.data.toList = pre ++ (s.data.toList ++ rest)) : tail.extract pre.length (pre.length + s.size) = s := by
  apply ByteArray.ext
  apply Array.toList_inj.1
  rw [ByteArray.data_extract]
  simp [h]

set_option maxHeartbeats 400000 in
theorem strD_any (B C b off g : Nat) (s : ByteArray) (cs vs : Array Value) (bv : Value) (pre rest : List UInt8) (tail : ByteArray) (w : World) (hC : w.heap[C]? = some (.cells #[bv, .bool true, .nilIface, .string tail] 30 (0, 0)))
    (hv : w.heap[b]? = some (.cells vs 9 (0, 0))) (hvo : vs[off]? = some (.string ⟨#[]⟩)) (hg : w.heap[g]? = some (.cells cs 5 (0, 0))) (hb : BV g cs bv (uv s.size ++ (s.data.toList ++ rest))) (hBC : B ≤ C) (hBb : B ≤ b) (hB : B ≤ w.heap.size)
    (ht : tail.data.toList = pre ++ (s.data.toList ++ rest)) (htn : tail.size ≠ 0) (hz : tail.size ≤ 50000000) :
    Calls Ybaf.prog 15 #[.pointer (some ⟨C, 0, none⟩), .pointer (some ⟨b, off, none⟩)] w fun e w' => StrD B C b off g cs vs tail s rest w e w' := by
  have hts : tail.size = pre.length + s.size + rest.length := by
    have := congrArg List.length ht
    simp at this
    omega
  have v0 := cell_at (i := off) hv hvo
  have hCb := ne_of_type hC hv (by decide)
  have hgC := ne_of_type hg hC (by decide)
  have hgb := ne_of_type hg hv (by decide)
  have hlt := lt_of_block hC
  have hltb := lt_of_block hv
  have hltg := lt_of_block hg
  go_enter Ybaf.func15, Ybaf.ntmps15
  go_wp2_with fail
  refine (uintD_any B C w.heap.size g s.size _ cs bv _ tail _ (show s.size < 268435456 by omega) (block_old hC _) (block_new _ _) (block_old hg _) hb hBC hB).mono ?_
  rintro e w1 ⟨rfl, ⟨bv1, hbv1, hC1⟩, hN1, hS1⟩
  have hv1 := hS1.cells (block_old hv _) (fun e => hCb e.symm) (by omega)
  have c1 := cell_at (i := 1) hC1 rfl
  have c2 := cell_at (i := 2) hC1 rfl
  have n1 := cell_at (i := 0) hN1 rfl
  go_wp2_with fail
  refine (takeD_any B C g s.size _ cs bv1 s.data.toList rest tail w1 (by simp) hC1 hbv1 hBC (by omega)).mono ?_
  rintro e w2 ⟨⟨a2, cc2, rfl⟩, ⟨bv2, hbv2, hC2⟩, hS2⟩
  obtain ⟨off2, cap2, rfl, hle2, hm2, hc2⟩ := id hbv2
  have hv2 := hS2.cells hv1 (fun e => hCb e.symm) (fun e => hCb e.symm)
  have d0 := cell_at (i := 0) hC2 rfl
  have d3 := cell_at (i := 3) hC2 rfl
  have u0 := cell_at (i := off) hv2 hvo
  have uf := free_at (i := off) hv2
  have htne : tail.toList.isEmpty = false := by
    rw [ByteArray.toList_eq]
    cases e : tail.data.toList with
    | nil => exact absurd (by have := congrArg List.length e; simpa using this) htn
    | cons _ _ => rfl
  have hcut := cut_tail tail s pre rest ht
  have Ht : Hid (tail.data.toList = pre ++ (s.data.toList ++ rest)) := ht
  clear ht
  generalize hp : pre.length = p at *
  generalize hr : rest.length = r at *
  clear hc2
  go_wp2_with fail
  go_quiet (fail)
  go_wp2_with fail
  go_end0
  have hC3 : (w2.drewN nq).heap[C]? = some (coder (.slice (some ⟨g, off2, none⟩) r cap2) tail) := hC2
  have hv3 : (w2.drewN nq).heap[b]? = some (.cells vs 9 (0, 0)) := hv2
  refine ⟨rfl, ⟨_, hbv2, block_other hC3 (a := ⟨b, off, none⟩) hCb _⟩, block_set hv3 _, ?_, ?_⟩
  · have hd : Below B w2 (w2.drewN nq) := ⟨rfl, rfl, rfl, Nat.le_refl _, fun _ _ => rfl⟩
    exact ((((Below.refl B w).alloc hB _).trans hS1.below).trans (hS2.below.trans hd)).setCell (p := ⟨b, off, none⟩) hBb _
  · intro k h1 h2 h3
    rw [Below.heap_setCell _ _ _ _ h2]
    show w2.heap[k]? = _
    have hw1 : w.heap.size < w1.heap.size := by have := hS1.below.size; simp at this; omega
    rw [hS2.same k h1 h1 (by omega), hS1.same k h1 (by omega) (by simp; omega), Below.heap_alloc _ _ _ h3]
end Go.Proofs.YbulkrkuFmt
