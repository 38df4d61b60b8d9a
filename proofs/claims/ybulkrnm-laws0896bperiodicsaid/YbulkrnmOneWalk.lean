import Derived.Test.YbulkrnmOne
namespace Go.Proofs.Ybulkrnm
open Go.RowKit

def LawPost (w : World) (e : Ending) (w' : World) : Prop := e = .returned (.bool true) ∧ Below w.heap.size w w'

set_option maxRecDepth 100000 in
set_option maxHeartbeats 400000 in
theorem one_any (sel tk cur d now due : Int) (st : Bool) (w : World) (h0 : 0 ≤ sel) (h1 : sel ≤ 255) (ht0 : 0 ≤ tk) (ht1 : tk ≤ 65535) (hc0 : 0 ≤ cur) (hc1 : cur ≤ 4294967295) (hd1 : due ≤ 9223372036854775807) :
    Calls Yba.prog 3 #[.int .u8 sel, .int .u16 tk, .int .u32 cur, .bool st, .int .i64 d, .int .i64 now, .int .i64 due] w fun e w' => LawPost w e w' := by
  have hcw : IntKind.i64.wrap cur = cur := wrap64_id _ (by omega) (by omega)
  go_enter Yba.func3, Yba.ntmps3
  go_wp2_with fail
  refine (wheel_any sel tk cur st w h0 h1 ht0 ht1 hc0 hc1).mono ?_
  rintro e w1 ⟨rfl, ⟨sz, sh, hs, hW⟩, hb1⟩
  go_wp2_with fail
  have hsz1 := hb1.size
  refine (sched1_any w.heap.size w.heap.size w1.heap.size (tk + 1) sz sh cur 0 d now due st .nilFunc _ hs (block_old hW _) (block_new _ _) hc0 hc1 hd1 (Nat.le_refl _) hsz1 (by simp; omega)).mono ?_
  rintro e w2 ⟨rfl, hp⟩
  have hbA := hb1.alloc (by omega) (.cells (timer w.heap.size .nilFunc 0 (.pointer none) (.pointer none)) 32)
  cases st with
  | true =>
    obtain ⟨hW2, hT2, hS2⟩ := hp
    have hB2 : Hid (Below w.heap.size w w2) := hbA.trans hS2.below
    have t6 : w2.cell? ⟨w1.heap.size, 6, none⟩ = some (.pointer none) := cell_at (i := 6) hT2 rfl
    have t3 : w2.cell? ⟨w1.heap.size, 3, none⟩ = some (.pointer none) := cell_at (i := 3) hT2 rfl
    have t2 : w2.cell? ⟨w1.heap.size, 2, none⟩ = some (.int .i64 due) := cell_at (i := 2) hT2 rfl
    have c8 : w2.cell? ⟨w.heap.size, 8, none⟩ = some (.slice none 0 0) := cell_at (i := 8) hW2 rfl
    clear hbA hS2 hb1
    go_wp2
    go_ret
    exact ⟨rfl, hB2.out⟩
  | false =>
    have hp' : Placed w.heap.size w.heap.size w1.heap.size (tk + 1) sz sh cur (if due < cur then cur else due) .nilFunc (.pointer none) _ w2 := hp
    have hB2 : Hid (Below w.heap.size w w2) := hbA.trans hp'.same.below
    obtain ⟨P, G, o, n, i, rg, lc, gs, span, s, mask, sv, xs, hW2, hT2, _⟩ := hp'.ex
    have t6 : w2.cell? ⟨w1.heap.size, 6, none⟩ = some (.pointer none) := cell_at (i := 6) hT2 rfl
    have t2 : w2.cell? ⟨w1.heap.size, 2, none⟩ = some (.int .i64 (if due < cur then cur else due)) := cell_at (i := 2) hT2 rfl
    clear hbA hb1 hp hW2 hT2
    by_cases hlt : due < cur
    · rw [if_pos hlt] at hp' t2
      go_wp2_with fail
      refine (placed_any _ _ _ _ _ _ _ _ _ _ _ w2 hp').mono ?_
      rintro e w3 ⟨rfl, m, rfl⟩
      go_wp2
      go_ret
      exact ⟨rfl, ⟨hB2.out.os, hB2.out.tape, hB2.out.output, hB2.out.size, hB2.out.block⟩⟩
    · rw [if_neg hlt] at hp' t2
      go_wp2_with fail
      refine (placed_any _ _ _ _ _ _ _ _ _ _ _ w2 hp').mono ?_
      rintro e w3 ⟨rfl, m, rfl⟩
      go_wp2
      go_ret
      exact ⟨rfl, ⟨hB2.out.os, hB2.out.tape, hB2.out.output, hB2.out.size, hB2.out.block⟩⟩
end Go.Proofs.Ybulkrnm
