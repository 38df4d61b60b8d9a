import Derived.Test.YbulkrnmNum
import Derived.Deep.RegionWith
import Derived.Deep.RegionHeld3
import Derived.Deep.RegionLaw
import Derived.Deep.DrawnRows
namespace Go.Proofs.Ybulkrnm
open Go.RowKit

set_option maxHeartbeats 400000 in
theorem level4_any (W : Nat) (due cur : Int) (w : World) (h4 : w.cell? ⟨W, 4, none⟩ = some (.int .u64 2)) (h7 : w.cell? ⟨W, 7, none⟩ = some (.int .i64 cur)) (hx0 : 0 ≤ IntKind.u64.wrap (bits .xor .i64 due cur)) (hx1 : IntKind.u64.wrap (bits .xor .i64 due cur) < 18446744073709551616) :
    Calls Yba.prog 12 #[.pointer (some ⟨W, 0, none⟩), .int .i64 due] w fun e w' => (∃ i : Nat, e = .returned (.int .i64 i) ∧ i ≤ 31) ∧ Below w.heap.size w w' := by
  have w2 : IntKind.i64.wrap 2 = 2 := by decide
  go_enter Yba.func12, Yba.ntmps12
  go_wp2_with fail
  go_region_with (go_at_call 17; refine (len64_any _ _ hx0 hx1).mono ?_; rintro e w1 ⟨r, rfl, hr, rfl⟩; have hr1 : IntKind.i64.wrap ((r : Int) - 1) = (r : Int) - 1 := wrap64_id _ (by omega) (by omega); obtain ⟨m, hm, hm63⟩ : ∃ m : Nat, (if (r : Int) - 1 < 0 then (0 : Int) else (r : Int) - 1) = m ∧ m ≤ 63 := ⟨r - 1, by split <;> omega, by omega⟩)
  all_goals
    go_wp2
    go_ret
    exact ⟨⟨m / 2, (show _ = Ending.returned (.int .i64 (IntKind.i64.wrap ((m : Int) / 2))) from rfl).trans (by rw [wrap64_id _ (by omega) (by omega)]; rfl), by omega⟩, (Below.refl _ _).drew⟩

set_option maxHeartbeats 400000 in
theorem level3_any (W : Nat) (due cur : Int) (w : World) (h3 : w.cell? ⟨W, 3, none⟩ = some (.int .i64 3)) (h4 : w.cell? ⟨W, 4, none⟩ = some (.int .u64 0)) (h7 : w.cell? ⟨W, 7, none⟩ = some (.int .i64 cur)) :
    Calls Yba.prog 12 #[.pointer (some ⟨W, 0, none⟩), .int .i64 due] w fun e w' => (∃ i : Nat, e = .returned (.int .i64 i) ∧ i ≤ 39) ∧ Below w.heap.size w w' := by
  go_enter Yba.func12, Yba.ntmps12
  go_wp2_with fail
  go_loopw [5, 6] (fun iv tv wr => ∃ (i T m : Nat), i ≤ 38 ∧ iv = .int .i64 i ∧ tv = .int .i64 T ∧ Hid (T = 3 ^ (i + 1)) ∧ w.drewN m = wr) (fun iv _ _ => 40 - (intOf iv).toNat)
  case atStart => exact ⟨0, 3, 0, by omega, rfl, rfl, rfl, rfl⟩
  case round =>
    obtain ⟨i, T, m, hi, rfl, rfl, hT, rfl⟩ := hrel
    have hT1 : 1 ≤ T := by rw [hT.out]; exact Nat.pow_pos (by omega)
    have hne : ¬ (T : Int) = 0 := by omega
    have hTb : Hid (i = 38 → 3074457345618258602 < T) := fun h => by rw [hT.out, h]; decide
    go_wp2_with fail
    go_quiet (fail)
    go_wp2_with fail
    · go_ret
      exact ⟨⟨i + 1, by simp, by omega⟩, ⟨rfl, rfl, rfl, Nat.le_refl _, fun _ _ => rfl⟩⟩
    · have hi38 : i ≠ 38 := fun h => by have := hTb.out h; omega
      exact ⟨⟨i + 1, T * 3, _, by omega, by simp, by simp, show T * 3 = 3 ^ (i + 1 + 1) by rw [hT.out, Nat.pow_succ 3 (i + 1)], rfl⟩, by simp [intOf]; omega⟩
    · go_ret
      exact ⟨⟨i, rfl, by omega⟩, ⟨rfl, rfl, rfl, Nat.le_refl _, fun _ _ => rfl⟩⟩
end Go.Proofs.Ybulkrnm
