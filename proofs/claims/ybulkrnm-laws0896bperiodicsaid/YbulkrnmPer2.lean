import Derived.Test.YbulkrnmPer
namespace Go.Proofs.Ybulkrnm
open Go.RowKit

/-- what the starting of a timer with a grid leaves -/
def Sched2 (B W T K : Nat) (tk sz sh cur due0 d next : Int) (st run : Bool) (fv : Value) (w w' : World) : Prop :=
  Below B w w' ∧ w'.heap[K]? = some (.cells #[.int .i64 d, .int .i64 next, .bool run, .bool run] 55 (0, 0)) ∧
  (if run then w'.heap[W]? = some (.cells (wheel tk sz sh cur (.slice none 0 0) st) 51 (0, 0)) ∧ w'.heap[T]? = some (.cells (timer W fv due0 (.pointer none) (.pointer (some ⟨K, 0, none⟩))) 32 (0, 0))
   else ∃ w1, Sched B W T tk sz sh cur (tickV next tk) st fv (.pointer (some ⟨K, 0, none⟩)) w1 w')

theorem Sched.same {B W T : Nat} {tk sz sh cur due : Int} {st : Bool} {fv gp : Value} {w w' : World} (h : Sched B W T tk sz sh cur due st fv gp w w') : SameBut B [W, T] w w' := by
  cases st with
  | true => exact h.2.2
  | false => exact Placed.same h

set_option maxRecDepth 100000 in
set_option maxHeartbeats 400000 in
theorem sched2_any (B W T K : Nat) (tk sz sh cur due0 d now due : Int) (st run : Bool) (fv : Value) (w : World) (hs : Two sz sh) (hW : w.heap[W]? = some (.cells (wheel tk sz sh cur (.slice none 0 0) st) 51 (0, 0)))
    (hT : w.heap[T]? = some (.cells (timer W fv due0 (.pointer none) (.pointer (some ⟨K, 0, none⟩))) 32 (0, 0))) (hK : w.heap[K]? = some (.cells #[.int .i64 0, .int .i64 0, .bool run, .bool false] 55 (0, 0))) (hc0 : 0 ≤ cur) (hc1 : cur ≤ 4294967295) (ht : 1 ≤ tk)
    (hBW : B ≤ W) (hBT : B ≤ T) (hBK : B ≤ K) (hB : B ≤ w.heap.size) :
    Calls Yba.prog 6 #[.pointer (some ⟨T, 0, none⟩), .int .i64 d, .agg #[.int .i64 now, .int .i64 0, .int .i64 due]] w fun e w' => e = .returned (.tuple #[]) ∧ Sched2 B W T K tk sz sh cur due0 d (clamp now d) st run fv w w' := by
  have hKT : ¬ K = T := fun e => by subst e; rw [hK] at hT; simp at hT
  have hWK : ¬ W = K := fun e => by subst e; rw [hW] at hK; simp at hK
  have hTA := block_old hT (.cells #[.int .i64 now, .int .i64 0, .int .i64 due] 36)
  have hWA := block_old hW (.cells #[.int .i64 now, .int .i64 0, .int .i64 due] 36)
  have hKA := block_old hK (.cells #[.int .i64 now, .int .i64 0, .int .i64 due] 36)
  have hbA : Below B w (w.alloc (.cells #[.int .i64 now, .int .i64 0, .int .i64 due] 36)) := (Below.refl _ _).alloc hB _
  have hsA : (w.alloc (.cells #[.int .i64 now, .int .i64 0, .int .i64 due] 36)).cell? ⟨w.heap.size, 0, none⟩ = some (.int .i64 now) := cell_at (i := 0) (block_new _ _) rfl
  generalize hNN : w.heap.size = N at *
  have t6 : (w.alloc (.cells #[.int .i64 now, .int .i64 0, .int .i64 due] 36)).cell? ⟨T, 6, none⟩ = some (.pointer (some ⟨K, 0, none⟩)) := cell_at (i := 6) hTA rfl
  have k0 : (w.alloc (.cells #[.int .i64 now, .int .i64 0, .int .i64 due] 36)).cell? ⟨K, 0, none⟩ = some (.int .i64 0) := cell_at (i := 0) hKA rfl
  have k1 : (w.alloc (.cells #[.int .i64 now, .int .i64 0, .int .i64 due] 36)).cell? ⟨K, 1, none⟩ = some (.int .i64 0) := cell_at (i := 1) hKA rfl
  have f0 := free_at (i := 0) hKA
  have f1 := free_at (i := 1) hKA
  have k2 : (w.alloc (.cells #[.int .i64 now, .int .i64 0, .int .i64 due] 36)).cell? ⟨K, 2, none⟩ = some (.bool run) := cell_at (i := 2) hKA rfl
  have k3 : (w.alloc (.cells #[.int .i64 now, .int .i64 0, .int .i64 due] 36)).cell? ⟨K, 3, none⟩ = some (.bool false) := cell_at (i := 3) hKA rfl
  have f3 := free_at (i := 3) hKA
  have hKB : (((w.alloc (.cells #[.int .i64 now, .int .i64 0, .int .i64 due] 36)).setCell ⟨K, 0, none⟩ (.int .i64 d)).setCell ⟨K, 1, none⟩ (.int .i64 (clamp now d))).heap[K]? = some (.cells #[.int .i64 d, .int .i64 (clamp now d), .bool run, .bool false] 55 (0, 0)) := block_set (i := 1) (block_set (i := 0) hKA _) _
  have hTB : (((w.alloc (.cells #[.int .i64 now, .int .i64 0, .int .i64 due] 36)).setCell ⟨K, 0, none⟩ (.int .i64 d)).setCell ⟨K, 1, none⟩ (.int .i64 (clamp now d))).heap[T]? = some (.cells (timer W fv due0 (.pointer none) (.pointer (some ⟨K, 0, none⟩))) 32 (0, 0)) := block_other (block_other hTA (a := ⟨K, 0, none⟩) (fun e => hKT e.symm) _) (a := ⟨K, 1, none⟩) (fun e => hKT e.symm) _
  have hWB : (((w.alloc (.cells #[.int .i64 now, .int .i64 0, .int .i64 due] 36)).setCell ⟨K, 0, none⟩ (.int .i64 d)).setCell ⟨K, 1, none⟩ (.int .i64 (clamp now d))).heap[W]? = some (.cells (wheel tk sz sh cur (.slice none 0 0) st) 51 (0, 0)) := block_other (block_other hWA (a := ⟨K, 0, none⟩) hWK _) (a := ⟨K, 1, none⟩) hWK _
  have hbB : Below B w (((w.alloc (.cells #[.int .i64 now, .int .i64 0, .int .i64 due] 36)).setCell ⟨K, 0, none⟩ (.int .i64 d)).setCell ⟨K, 1, none⟩ (.int .i64 (clamp now d))) := (hbA.setCell (p := ⟨K, 0, none⟩) hBK _).setCell (p := ⟨K, 1, none⟩) hBK _
  obtain ⟨n0, n1⟩ := clamp_range now d
  have HB : Hid (_ ∧ _ ∧ _ ∧ _) := ⟨hKB, hTB, hWB, hbB⟩
  clear hKB hTB hWB hbB hTA hWA hKA hbA
  cases run with
  | true =>
    go_enter Yba.func6, Yba.ntmps6
    go_wp2_with fail
    refine (addClamped_any now d _).mono ?_
    rintro e w1 ⟨rfl, rfl⟩
    go_wp2
    refine bodyPost_ret (v := .tuple #[]) (by simp [results, Yba.results6]) rfl ?_
    obtain ⟨hKB, hTB, hWB, hbB⟩ := HB.out
    exact ⟨rfl, hbB.setCell (p := ⟨K, 3, none⟩) hBK _, block_set (i := 3) hKB _, block_other hWB (a := ⟨K, 3, none⟩) hWK _, block_other hTB (a := ⟨K, 3, none⟩) (fun e => hKT e.symm) _⟩
  | false =>
    go_enter Yba.func6, Yba.ntmps6
    go_wp2_with fail
    refine (addClamped_any now d _).mono ?_
    rintro e w1 ⟨rfl, rfl⟩
    go_wp2_with fail
    obtain ⟨hKB, hTB, hWB, hbB⟩ := HB.out
    refine (place_any B W T K tk sz sh cur due0 (clamp now d) st fv _ _ _ _ hs hWB hTB hKB hc0 hc1 ht n0 n1 hBW hBT (Nat.le_trans (by omega) hbB.size)).mono ?_
    rintro e w2 ⟨rfl, hp⟩
    clear k0 k1 k2 k3 f0 f1 f3 t6 hsA HB
    go_wp2
    go_end0
    exact ⟨rfl, hbB.trans hp.same.below, hp.same.cells hKB (by simp; exact ⟨fun e => hWK e.symm, hKT⟩), _, hp⟩
end Go.Proofs.Ybulkrnm
