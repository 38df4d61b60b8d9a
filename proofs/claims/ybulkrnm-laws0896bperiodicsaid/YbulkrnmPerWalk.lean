import Derived.Test.YbulkrnmPer2
namespace Go.Proofs.Ybulkrnm
open Go.RowKit

theorem info55 : (Yba.prog.info? 55).map (·.size) = some 4 := by kernel_rfl

theorem clamp_part (now d : Int) : (0 < d ∧ wrap64 (9223372036854775807 - d) < now ∧ clamp now d = 9223372036854775807) ∨ (0 < d ∧ ¬ wrap64 (9223372036854775807 - d) < now ∧ clamp now d = wrap64 (now + d)) ∨ (¬ 0 < d ∧ True ∧ clamp now d = wrap64 (now + d)) := by
  unfold clamp
  by_cases p1 : 0 < d
  · by_cases p2 : wrap64 (9223372036854775807 - d) < now
    · exact .inl ⟨p1, p2, if_pos ⟨p1, p2⟩⟩
    · exact .inr (.inl ⟨p1, p2, if_neg fun e => p2 e.2⟩)
  · exact .inr (.inr ⟨p1, trivial, if_neg fun e => p1 e.1⟩)

set_option maxRecDepth 100000 in
set_option maxHeartbeats 400000 in
theorem per_any (sel tk cur d now due : Int) (st run : Bool) (w : World) (h0 : 0 ≤ sel) (h1 : sel ≤ 255) (ht0 : 0 ≤ tk) (ht1 : tk ≤ 65535) (hc0 : 0 ≤ cur) (hc1 : cur ≤ 4294967295) :
    Calls Yba.prog 4 #[.int .u8 sel, .int .u16 tk, .int .u32 cur, .bool st, .bool run, .int .i64 d, .int .i64 now, .int .i64 due] w fun e w' => LawPost w e w' := by
  have hcw : IntKind.i64.wrap cur = cur := wrap64_id _ (by omega) (by omega)
  obtain ⟨j55, hj55, _⟩ := info_some info55
  go_enter Yba.func4, Yba.ntmps4
  go_wp2_with fail
  refine (wheel_any sel tk cur st w h0 h1 ht0 ht1 hc0 hc1).mono ?_
  rintro e w1 ⟨rfl, ⟨sz, sh, hs, hW⟩, hb1⟩
  go_wp2_with fail
  have hsz1 := hb1.size
  have hN2 : (w1.alloc (.cells #[.int .i64 0, .int .i64 0, .bool run, .bool false] 55)).heap.size = w1.heap.size + 1 := Array.size_push _
  refine (sched2_any w.heap.size w.heap.size (w1.heap.size + 1) w1.heap.size (tk + 1) sz sh cur (-7) d now due st run .nilFunc _ hs (block_old (block_old hW _) _) (block_at hN2 _) (block_old (block_new _ _) _) hc0 hc1 (by omega) (Nat.le_refl _) (by omega) hsz1 (by simp; omega)).mono ?_
  rintro e w2 ⟨rfl, hb2, hK, hp⟩
  have hL : LawPost w (.returned (.bool true)) w2 := ⟨rfl, ((hb1.alloc (by omega) _).alloc (by omega) _).trans hb2⟩
  clear hb1 hb2 hW hN2
  generalize w1.heap.size = K at *
  generalize w.heap.size = W at *
  have k0 := cell_at (i := 0) hK rfl
  have k1 := cell_at (i := 1) hK rfl
  have k2 := cell_at (i := 2) hK rfl
  have k3 := cell_at (i := 3) hK rfl
  have n30 := fun w' => Lib.run_neq_ptr_same (P := Yba.prog) w' (tp := 30) (te := 55) ⟨K, 0, none⟩ Yba.underlying30 hj55
  rcases clamp_part now d with ⟨p1, p2, hc⟩ | ⟨p1, p2, hc⟩ | ⟨p1, p2, hc⟩
  all_goals
    obtain ⟨n0, n1⟩ := clamp_range now d
    have hq : Hid (tickV (clamp now d) (tk + 1) < cur ∨ ¬ tickV (clamp now d) (tk + 1) < cur) := Classical.em _
    rw [hc] at k1 hp n0 n1 hq
    clear hc hK
    cases run with
    | true =>
      obtain ⟨hW2, hT2⟩ := hp
      have t6 : w2.cell? ⟨K + 1, 6, none⟩ = some (.pointer (some ⟨K, 0, none⟩)) := cell_at (i := 6) hT2 rfl
      have t3 : w2.cell? ⟨K + 1, 3, none⟩ = some (.pointer none) := cell_at (i := 3) hT2 rfl
      have t2 : w2.cell? ⟨K + 1, 2, none⟩ = some (.int .i64 (-7)) := cell_at (i := 2) hT2 rfl
      have c8 : w2.cell? ⟨W, 8, none⟩ = some (.slice none 0 0) := cell_at (i := 8) hW2 rfl
      clear hT2 hW2
      go_wp2_with fail
      go_ret
      exact ⟨rfl, hL.2.os, hL.2.tape, hL.2.output, hL.2.size, hL.2.block⟩
    | false =>
      obtain ⟨wz, hp⟩ := hp
      cases st with
      | true =>
        obtain ⟨hW2, hT2, _⟩ := hp
        have t6 : w2.cell? ⟨K + 1, 6, none⟩ = some (.pointer (some ⟨K, 0, none⟩)) := cell_at (i := 6) hT2 rfl
        have t3 : w2.cell? ⟨K + 1, 3, none⟩ = some (.pointer none) := cell_at (i := 3) hT2 rfl
        have t2 : w2.cell? ⟨K + 1, 2, none⟩ = some (.int .i64 _) := cell_at (i := 2) hT2 rfl
        have c8 : w2.cell? ⟨W, 8, none⟩ = some (.slice none 0 0) := cell_at (i := 8) hW2 rfl
        have c2 : w2.cell? ⟨W, 2, none⟩ = some (.int .i64 (tk + 1)) := cell_at (i := 2) hW2 rfl
        clear hT2 hW2
        go_wp2_with fail
        refine (tickof_any _ (tk + 1) _ n0 n1 (by omega)).mono ?_
        rintro e w3 ⟨rfl, rfl⟩
        go_wp2_with fail
        go_ret
        exact ⟨rfl, hL.2.os, hL.2.tape, hL.2.output, hL.2.size, hL.2.block⟩
      | false =>
        have hp' : Placed W W (K + 1) (tk + 1) sz sh cur _ .nilFunc (.pointer (some ⟨K, 0, none⟩)) wz w2 := hp
        obtain ⟨P, G, o, n, i, rg, lc, gs, span, s, mask, sv, xs, hW2, hT2, _⟩ := hp'.ex
        have t6 : w2.cell? ⟨K + 1, 6, none⟩ = some (.pointer (some ⟨K, 0, none⟩)) := cell_at (i := 6) hT2 rfl
        have t2 : w2.cell? ⟨K + 1, 2, none⟩ = some (.int .i64 _) := cell_at (i := 2) hT2 rfl
        have c2 : w2.cell? ⟨W, 2, none⟩ = some (.int .i64 (tk + 1)) := cell_at (i := 2) hW2 rfl
        clear hT2 hW2 hp
        rcases hq.out with hlt | hlt
        · rw [if_pos hlt] at hp' t2
          go_wp2_with fail
          refine (tickof_any _ (tk + 1) _ n0 n1 (by omega)).mono ?_
          rintro e w3 ⟨rfl, rfl⟩
          go_wp2_with fail
          refine (placed_any _ _ _ _ _ _ _ _ _ _ _ _ hp').mono ?_
          rintro e w4 ⟨rfl, m, rfl⟩
          go_wp2_with fail
          go_ret
          exact ⟨rfl, hL.2.os, hL.2.tape, hL.2.output, hL.2.size, hL.2.block⟩
        · rw [if_neg hlt] at hp' t2
          go_wp2_with fail
          refine (tickof_any _ (tk + 1) _ n0 n1 (by omega)).mono ?_
          rintro e w3 ⟨rfl, rfl⟩
          go_wp2_with fail
          refine (placed_any _ _ _ _ _ _ _ _ _ _ _ _ hp').mono ?_
          rintro e w4 ⟨rfl, m, rfl⟩
          go_wp2_with fail
          go_ret
          exact ⟨rfl, hL.2.os, hL.2.tape, hL.2.output, hL.2.size, hL.2.block⟩
end Go.Proofs.Ybulkrnm
