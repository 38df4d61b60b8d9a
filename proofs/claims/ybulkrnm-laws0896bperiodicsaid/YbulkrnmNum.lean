import Derived.Test.YbulkrnmRows
import Derived.Test.YbulkrnmAid
import Derived.Deep.QuietTactic
import Derived.BigQuiet
import Derived.BigRegion
namespace Go.Proofs.Ybulkrnm
open Go.RowKit

/-- the bits of a byte -/
def lenTab : ByteArray := ⟨#[0, 1, 2, 2, 3, 3, 3, 3, 4, 4, 4, 4, 4, 4, 4, 4, 5, 5, 5, 5, 5, 5, 5, 5, 5, 5, 5, 5, 5, 5, 5, 5, 6, 6, 6, 6, 6, 6, 6, 6, 6, 6, 6, 6, 6, 6, 6, 6, 6, 6, 6, 6, 6, 6, 6, 6, 6, 6, 6, 6, 6, 6, 6, 6, 7, 7, 7, 7, 7, 7, 7, 7, 7, 7, 7, 7, 7, 7, 7, 7, 7, 7, 7, 7, 7, 7, 7, 7, 7, 7, 7, 7, 7, 7, 7, 7, 7, 7, 7, 7, 7, 7, 7, 7, 7, 7, 7, 7, 7, 7, 7, 7, 7, 7, 7, 7, 7, 7, 7, 7, 7, 7, 7, 7, 7, 7, 7, 7, 8, 8, 8, 8, 8, 8, 8, 8, 8, 8, 8, 8, 8, 8, 8, 8, 8, 8, 8, 8, 8, 8, 8, 8, 8, 8, 8, 8, 8, 8, 8, 8, 8, 8, 8, 8, 8, 8, 8, 8, 8, 8, 8, 8, 8, 8, 8, 8, 8, 8, 8, 8, 8, 8, 8, 8, 8, 8, 8, 8, 8, 8, 8, 8, 8, 8, 8, 8, 8, 8, 8, 8, 8, 8, 8, 8, 8, 8, 8, 8, 8, 8, 8, 8, 8, 8, 8, 8, 8, 8, 8, 8, 8, 8, 8, 8, 8, 8, 8, 8, 8, 8, 8, 8, 8, 8, 8, 8, 8, 8, 8, 8, 8, 8, 8, 8, 8, 8, 8, 8, 8, 8, 8, 8, 8, 8, 8, 8]⟩
set_option maxRecDepth 100000 in
theorem tab_all : ∀ i : Fin 256, (lenTab[i.val]'(by have := i.isLt; exact this)).toNat ≤ 8 := by decide +kernel
set_option maxRecDepth 100000 in
theorem tab_le (i : Nat) (h : i < lenTab.size) : lenTab[i].toNat ≤ 8 := tab_all ⟨i, h⟩
theorem len_close {w : World} (K : Int) (b : UInt8) (hb : b.toNat ≤ 8) (h0 : 0 ≤ K) (hK : K ≤ 56) : ∃ r : Nat, Ending.returned (.int .i64 (wrap64 (K + wrap64 (b.toNat : Int)))) = .returned (.int .i64 r) ∧ r ≤ 64 ∧ w = w := by
  refine ⟨K.toNat + b.toNat, ?_, by omega, rfl⟩
  congr 2
  unfold wrap64
  omega
theorem len_close0 {w : World} (b : UInt8) (hb : b.toNat ≤ 8) : ∃ r : Nat, Ending.returned (.int .i64 (wrap64 (wrap64 (b.toNat : Int)))) = .returned (.int .i64 r) ∧ r ≤ 64 ∧ w = w := by
  refine ⟨b.toNat, ?_, by omega, rfl⟩
  congr 2
  unfold wrap64
  omega

set_option maxRecDepth 100000 in
set_option maxHeartbeats 400000 in
theorem len64_any (x : Int) (w : World) (h0 : 0 ≤ x) (h1 : x < 18446744073709551616) :
    Calls Yba.prog 17 #[.int .u64 x] w fun e w' => ∃ r : Nat, e = .returned (.int .i64 r) ∧ r ≤ 64 ∧ w = w' := by
  go_enter Yba.func17, Yba.ntmps17
  go_wp2
  all_goals
    go_ret
    first | exact len_close _ _ (tab_le _ _) (by decide) (by decide) | exact len_close0 _ (tab_le _ _)

def clamp (a b : Int) : Int := if 0 < b ∧ wrap64 (9223372036854775807 - b) < a then 9223372036854775807 else wrap64 (a + b)
set_option maxHeartbeats 400000 in
theorem addClamped_any (a b : Int) (w : World) :
    Calls Yba.prog 10 #[.int .i64 a, .int .i64 b] w fun e w' => e = .returned (.int .i64 (clamp a b)) ∧ w = w' := by
  unfold clamp
  go_enter Yba.func10, Yba.ntmps10
  go_wp2
  all_goals
    go_ret
    exact ⟨rfl, rfl⟩

/-- the first tick at or after n -/
def tickV (n tk : Int) : Int := if 0 < n - n.tdiv tk * tk then n.tdiv tk + 1 else n.tdiv tk

theorem div_facts (n tk : Int) (ht : 1 ≤ tk) : n.tmod tk = n - n.tdiv tk * tk ∧ (0 ≤ n → 0 ≤ n.tmod tk ∧ 0 ≤ n.tdiv tk ∧ n.tdiv tk ≤ n ∧ n.tdiv tk * tk ≤ n ∧ 0 ≤ n.tdiv tk * tk) ∧ (n < 0 → n.tmod tk ≤ 0 ∧ n.tdiv tk ≤ 0 ∧ n ≤ n.tdiv tk * tk ∧ n.tdiv tk * tk ≤ 0 ∧ n ≤ n.tdiv tk) ∧ (0 < n.tmod tk → n.tdiv tk < n) := by
  have h1 : tk * n.tdiv tk + n.tmod tk = n := Int.mul_tdiv_add_tmod n tk
  rw [Int.mul_comm] at h1
  have e1 : n.tmod tk = n - n.tdiv tk * tk := by omega
  refine ⟨e1, fun h => ?_, fun h => ?_, fun h => ?_⟩
  · have h2 := Int.tmod_nonneg tk h
    have h3 : 0 ≤ n.tdiv tk := Int.tdiv_nonneg h (by omega)
    have h4 : n.tdiv tk * 1 ≤ n.tdiv tk * tk := Int.mul_le_mul_of_nonneg_left ht h3
    omega
  · have h2 : 0 ≤ (-n).tmod tk := Int.tmod_nonneg tk (by omega)
    rw [Int.neg_tmod] at h2
    have h3 : 0 ≤ (-n).tdiv tk := Int.tdiv_nonneg (by omega) (by omega)
    rw [Int.neg_tdiv] at h3
    have h4 : n.tdiv tk * tk ≤ n.tdiv tk * 1 := Int.mul_le_mul_of_nonpos_left (by omega) ht
    omega
  · rcases Int.lt_or_le n 0 with h5 | h5
    · have h2 : 0 ≤ (-n).tmod tk := Int.tmod_nonneg tk (by omega)
      rw [Int.neg_tmod] at h2
      omega
    · have h3 : 0 ≤ n.tdiv tk := Int.tdiv_nonneg h5 (by omega)
      have h4 : n.tdiv tk * 1 ≤ n.tdiv tk * tk := Int.mul_le_mul_of_nonneg_left ht h3
      omega
theorem wrap64_id (x : Int) (h0 : -9223372036854775808 ≤ x) (h1 : x ≤ 9223372036854775807) : IntKind.i64.wrap x = x := by rw [IntKind.wrap_i64]; omega

set_option maxHeartbeats 400000 in
theorem tickOf_any (W : Nat) (n tk : Int) (w : World) (hn0 : -9223372036854775808 ≤ n) (hn1 : n ≤ 9223372036854775807) (ht0 : 1 ≤ tk) (h2 : w.cell? ⟨W, 2, none⟩ = some (.int .i64 tk)) :
    Calls Yba.prog 16 #[.pointer (some ⟨W, 0, none⟩), .int .i64 n] w fun e w' => e = .returned (.int .i64 (tickV n tk)) ∧ w = w' := by
  have hne : ¬ tk = 0 := by omega
  obtain ⟨e1, e2, e3, e4⟩ := div_facts n tk ht0
  by_cases hr : 0 < n.tmod tk
  · have hv : tickV n tk = n.tdiv tk + 1 := by unfold tickV; rw [if_pos (by omega)]
    have hw : IntKind.i64.wrap (n.tdiv tk + 1) = n.tdiv tk + 1 := wrap64_id _ (by have := e4 hr; rcases Int.lt_or_le n 0 with h | h <;> first | (have := e3 h; omega) | (have := e2 h; omega)) (by have := e4 hr; omega)
    have t : decide (0 < n.tmod tk) = true := by simpa using hr
    rw [hv]
    clear e1 e2 e3 e4 hv
    go_enter Yba.func16, Yba.ntmps16
    go_wp2
    go_ret
    exact ⟨rfl, rfl⟩
  · have hv : tickV n tk = n.tdiv tk := by unfold tickV; rw [if_neg (by omega)]
    have t : decide (0 < n.tmod tk) = false := by simpa using hr
    rw [hv]
    clear e1 e2 e3 e4 hv
    go_enter Yba.func16, Yba.ntmps16
    go_wp2
    go_ret
    exact ⟨rfl, rfl⟩

set_option maxHeartbeats 400000 in
theorem tickof_any (n tk : Int) (w : World) (hn0 : -9223372036854775808 ≤ n) (hn1 : n ≤ 9223372036854775807) (ht0 : 1 ≤ tk) :
    Calls Yba.prog 8 #[.int .i64 n, .int .i64 tk] w fun e w' => e = .returned (.int .i64 (tickV n tk)) ∧ w = w' := by
  have hne : ¬ tk = 0 := by omega
  obtain ⟨e1, e2, e3, e4⟩ := div_facts n tk ht0
  have hm : IntKind.i64.wrap (n.tdiv tk * tk) = n.tdiv tk * tk := wrap64_id _ (by rcases Int.lt_or_le n 0 with h | h <;> first | (have := e3 h; omega) | (have := e2 h; omega)) (by rcases Int.lt_or_le n 0 with h | h <;> first | (have := e3 h; omega) | (have := e2 h; omega))
  have hs : IntKind.i64.wrap (n - n.tdiv tk * tk) = n - n.tdiv tk * tk := wrap64_id _ (by rcases Int.lt_or_le n 0 with h | h <;> first | (have := e3 h; omega) | (have := e2 h; omega)) (by rcases Int.lt_or_le n 0 with h | h <;> first | (have := e3 h; omega) | (have := e2 h; omega))
  by_cases hr : 0 < n - n.tdiv tk * tk
  · have hv : tickV n tk = n.tdiv tk + 1 := by unfold tickV; rw [if_pos hr]
    have hw : IntKind.i64.wrap (n.tdiv tk + 1) = n.tdiv tk + 1 := wrap64_id _ (by have := e4 (by omega); rcases Int.lt_or_le n 0 with h | h <;> first | (have := e3 h; omega) | (have := e2 h; omega)) (by have := e4 (by omega); omega)
    have t : decide (n.tdiv tk * tk < n) = true := by simp; omega
    rw [hv]
    clear e1 e2 e3 e4 hv hr
    go_enter Yba.func8, Yba.ntmps8
    go_wp2
    go_ret
    exact ⟨rfl, rfl⟩
  · have hv : tickV n tk = n.tdiv tk := by unfold tickV; rw [if_neg hr]
    have t : decide (n.tdiv tk * tk < n) = false := by simp; omega
    rw [hv]
    clear e1 e2 e3 e4 hv hr
    go_enter Yba.func8, Yba.ntmps8
    go_wp2
    go_ret
    exact ⟨rfl, rfl⟩

/-- the two wheels: base 4, by shifts; base 3, by divisions -/
def Base (sz sh mask top : Nat) : Prop := (sz = 4 ∧ sh = 2 ∧ mask = 3 ∧ top = 31) ∨ (sz = 3 ∧ sh = 0 ∧ mask = 0 ∧ top = 39)
end Go.Proofs.Ybulkrnm
