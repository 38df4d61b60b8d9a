import Derived.Test.YbulkrnmOneWalk
namespace Go.Proofs.Ybulkrnm
open Go.RowKit

theorem clamp_range (a b : Int) : -9223372036854775808 ≤ clamp a b ∧ clamp a b ≤ 9223372036854775807 := by
  unfold clamp wrap64
  split <;> omega
theorem tickV_range (n tk : Int) (hn1 : n ≤ 9223372036854775807) (ht : 1 ≤ tk) : tickV n tk ≤ 9223372036854775807 := by
  obtain ⟨e1, e2, e3, e4⟩ := div_facts n tk ht
  unfold tickV
  split
  · have := e4 (by omega)
    omega
  · rcases Int.lt_or_le n 0 with h | h
    · have := e3 h; omega
    · have := e2 h; omega

set_option maxRecDepth 100000 in
set_option maxHeartbeats 400000 in
theorem place_any (B W T K : Nat) (tk sz sh cur due0 next : Int) (st : Bool) (fv : Value) (per run ag : Value) (w : World) (hs : Two sz sh) (hW : w.heap[W]? = some (.cells (wheel tk sz sh cur (.slice none 0 0) st) 51 (0, 0)))
    (hT : w.heap[T]? = some (.cells (timer W fv due0 (.pointer none) (.pointer (some ⟨K, 0, none⟩))) 32 (0, 0))) (hK : w.heap[K]? = some (.cells #[per, .int .i64 next, run, ag] 55 (0, 0))) (hc0 : 0 ≤ cur) (hc1 : cur ≤ 4294967295) (ht : 1 ≤ tk)
    (hn0 : -9223372036854775808 ≤ next) (hn1 : next ≤ 9223372036854775807) (hBW : B ≤ W) (hBT : B ≤ T) (hB : B ≤ w.heap.size) :
    Calls Yba.prog 11 #[.pointer (some ⟨T, 0, none⟩)] w fun e w' => e = .returned (.tuple #[]) ∧ Sched B W T tk sz sh cur (tickV next tk) st fv (.pointer (some ⟨K, 0, none⟩)) w w' := by
  have hWT : ¬ W = T := fun e => by subst e; rw [hW] at hT; simp at hT
  have hKT : ¬ K = T := fun e => by subst e; rw [hK] at hT; simp at hT
  have t0 : w.cell? ⟨T, 0, none⟩ = some (.pointer (some ⟨W, 0, none⟩)) := cell_at (i := 0) hT rfl
  have t2 : w.cell? ⟨T, 2, none⟩ = some (.int .i64 due0) := cell_at (i := 2) hT rfl
  have t6 : w.cell? ⟨T, 6, none⟩ = some (.pointer (some ⟨K, 0, none⟩)) := cell_at (i := 6) hT rfl
  have k1 : w.cell? ⟨K, 1, none⟩ = some (.int .i64 next) := cell_at (i := 1) hK rfl
  have f2 := free_at (i := 2) hT
  have w2 : w.cell? ⟨W, 2, none⟩ = some (.int .i64 tk) := cell_at (i := 2) hW rfl
  have hv1 := tickV_range next tk hn1 ht
  have hW1 : (w.setCell ⟨T, 2, none⟩ (.int .i64 (tickV next tk))).heap[W]? = some (.cells (wheel tk sz sh cur (.slice none 0 0) st) 51 (0, 0)) := block_other hW (a := ⟨T, 2, none⟩) hWT _
  have hT1 : (w.setCell ⟨T, 2, none⟩ (.int .i64 (tickV next tk))).heap[T]? = some (.cells (timer W fv (tickV next tk) (.pointer none) (.pointer (some ⟨K, 0, none⟩))) 32 (0, 0)) := block_set (i := 2) hT (.int .i64 (tickV next tk))
  have hK1 : (w.setCell ⟨T, 2, none⟩ (.int .i64 (tickV next tk))).heap[K]? = some (.cells #[per, .int .i64 next, run, ag] 55 (0, 0)) := block_other hK (a := ⟨T, 2, none⟩) hKT _
  have hS1 : SameBut B [W, T] w (w.setCell ⟨T, 2, none⟩ (.int .i64 (tickV next tk))) := ((SameBut.refl B w).mono (by simp)).set (p := ⟨T, 2, none⟩) hBT (by simp) _
  have hSv : Hid ((w.setCell ⟨T, 2, none⟩ (.int .i64 (tickV next tk))).cell? ⟨T, 0, none⟩ = some (.pointer (some ⟨W, 0, none⟩)) ∧ (w.setCell ⟨T, 2, none⟩ (.int .i64 (tickV next tk))).cell? ⟨T, 6, none⟩ = some (.pointer (some ⟨K, 0, none⟩)) ∧ (w.setCell ⟨T, 2, none⟩ (.int .i64 (tickV next tk))).cell? ⟨K, 1, none⟩ = some (.int .i64 next)) :=
    ⟨cell_at (i := 0) hT1 rfl, cell_at (i := 6) hT1 rfl, cell_at (i := 1) hK1 rfl⟩
  have HB : Hid (_ ∧ _ ∧ _ ∧ _) := ⟨hW1, hT1, hK1, hS1⟩
  clear hW1 hT1 hK1 hS1
  go_enter Yba.func11, Yba.ntmps11
  go_wp2_with fail
  go_region_held3 (fun w' => w'.cell? ⟨T, 0, none⟩ = some (.pointer (some ⟨W, 0, none⟩)) ∧ w'.cell? ⟨T, 6, none⟩ = some (.pointer (some ⟨K, 0, none⟩)) ∧ w'.cell? ⟨K, 1, none⟩ = some (.int .i64 next))
    (first | exact hSv.out | go_keep)
    ((go_at_call 16; refine (tickOf_any W next tk w.drew hn0 hn1 ht (show w.drew.cell? ⟨W, 2, none⟩ = _ from w2)).mono ?_; rintro e w1 ⟨rfl, rfl⟩))
  have hW1 : (w.setCell ⟨T, 2, none⟩ (.int .i64 (tickV next tk))).drew.heap[W]? = some (.cells (wheel tk sz sh cur (.slice none 0 0) st) 51 (0, 0)) := HB.out.1
  have hT1 : (w.setCell ⟨T, 2, none⟩ (.int .i64 (tickV next tk))).drew.heap[T]? = some (.cells (timer W fv (tickV next tk) (.pointer none) (.pointer (some ⟨K, 0, none⟩))) 32 (0, 0)) := HB.out.2.1
  have hS1 : SameBut B [W, T] w (w.setCell ⟨T, 2, none⟩ (.int .i64 (tickV next tk))).drew := HB.out.2.2.2.drew
  have t01 := hSv.out.1
  clear t0 t2 t6 k1 f2 w2 HB hSv
  go_wp2_with fail
  clear t01
  generalize (w.setCell ⟨T, 2, none⟩ (.int .i64 (tickV next tk))).drew = w1 at *
  cases st with
  | true =>
    refine (ins_stopped W T tk sz sh cur _ w1 hW1).mono ?_
    rintro e w2 ⟨rfl, rfl⟩
    go_wp2
    go_end0
    exact ⟨rfl, hW1, hT1, hS1⟩
  | false =>
    refine (ins_any B W T tk sz sh cur (tickV next tk) fv _ w1 hs hW1 hT1 hc0 hc1 hv1 hBW hBT (Nat.le_trans hB hS1.below.size)).mono ?_
    rintro e w2 ⟨rfl, hp⟩
    go_wp2
    go_end0
    exact ⟨rfl, hp.from_ hS1⟩
end Go.Proofs.Ybulkrnm
