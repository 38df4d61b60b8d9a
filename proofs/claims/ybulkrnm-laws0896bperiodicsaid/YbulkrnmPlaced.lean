import Derived.Test.YbulkrnmIns3
import Derived.LaidEqlPtr
import Derived.Lib.Builder
namespace Go.Proofs.Ybulkrnm
open Go.RowKit

theorem info32 : (Yba.prog.info? 32).map (·.size) = some 7 := by kernel_rfl
theorem info67 : (Yba.prog.info? 67).map (·.size) = some 5 := by kernel_rfl
theorem info_some {x : Option TypeInfo} {n : Nat} (h : x.map (·.size) = some n) : ∃ j, x = some j ∧ j.size = n := by
  cases x with
  | none => simp at h
  | some j => exact ⟨j, rfl, by simpa using h⟩

set_option maxRecDepth 100000 in
set_option maxHeartbeats 400000 in
theorem placed_any (B W T : Nat) (tk sz sh cur due : Int) (fv gp : Value) (w0 w : World) (h : Placed B W T tk sz sh cur due fv gp w0 w) :
    Calls Yba.prog 7 #[.pointer (some ⟨W, 0, none⟩), .pointer (some ⟨T, 0, none⟩)] w fun e w' => e = .returned (.bool true) ∧ ∃ m, w' = w.drewN m := by
  obtain ⟨P, G, o, n, i, rg, lc, gs, span, s, mask, sv, xs, hW, hT, hP, hG, g0, g1, g2, hin, hn, hxl, hxi, hptr, hrow⟩ := h.ex
  have c8 : w.cell? ⟨W, 8, none⟩ = some (.slice (some ⟨rg, 0, none⟩) n lc) := cell_at (i := 8) hW rfl
  have t3 := cell_at (i := 3) hT rfl
  have t4 := cell_at (i := 4) hT rfl
  have t5 := cell_at (i := 5) hT rfl
  have p4 := cell_at (i := 4) hP rfl
  have s0 := cell_at (i := o) hG g0
  have s1 := cell_at (i := o + 1) hG g1
  have s2 := cell_at (i := o + 2) hG g2
  obtain ⟨j32, hj32, _⟩ := info_some info32
  obtain ⟨j67, hj67, hs67⟩ := info_some info67
  have n26 := fun w' => Lib.run_neq_ptr_same (P := Yba.prog) w' (tp := 26) (te := 32) ⟨T, 0, none⟩ Yba.underlying26 hj32
  have e60 := fun w' => run_eql_ptr_same (P := Yba.prog) w' (tp := 60) (te := 67) ⟨P, 0, none⟩ Yba.underlying60 hj67
  go_enter Yba.func7, Yba.ntmps7
  go_wp2_with fail
  go_loopw [6] (fun iv wr => ∃ k m : Nat, k ≤ i ∧ iv = .int .i64 k ∧ w.drewN m = wr) (fun iv _ => n - (intOf iv).toNat)
  case atStart => exact ⟨0, 0, by omega, rfl, rfl⟩
  case round =>
    obtain ⟨k, m, hk, rfl, rfl⟩ := hrel
    obtain ⟨x, hx⟩ : ∃ x, xs[k]? = some x := ⟨xs[k]'(by omega), List.getElem?_eq_getElem _⟩
    obtain ⟨q, qcs, rfl, hq⟩ := hptr x (List.mem_of_getElem? hx)
    have hrk := hrow k _ hx
    have i0 : (0 : Int) ≤ (k : Int) := Int.natCast_nonneg _
    have i1 : (k : Int) < (n : Int) := by omega
    by_cases hqP : q = P
    · subst hqP
      go_wp2_with fail
      go_quiet (fail)
      go_wp2
      go_ret
      exact ⟨rfl, m + nq, by simp [World.drewN, Nat.add_assoc]⟩
    · have hki : k ≠ i := fun e => by
        rw [e, hxi] at hx
        exact hqP (by cases hx; rfl)
      have eo := fun m' => run_eql_ptr_other (P := Yba.prog) (w.drewN m') (tp := 60) (te := 67) (a := ⟨q, 0, none⟩) (b := ⟨P, 0, none⟩) Yba.underlying60 hj67 (by rw [hs67]; decide) (fun e => hqP (by cases e; rfl)) hq hP
      go_wp2_with fail
      go_quiet (fail)
      go_wp2
      go_roundw
      case rel => exact ⟨k + 1, _, by omega, by go_num, rfl⟩
      case measure => simp [intOf]; omega
end Go.Proofs.Ybulkrnm
