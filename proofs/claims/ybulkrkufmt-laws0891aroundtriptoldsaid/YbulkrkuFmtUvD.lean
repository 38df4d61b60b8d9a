import Derived.Test.YbulkrkuFmtCoE
namespace Go.Proofs.YbulkrkuFmt
open Go.RowKit

theorem or_add {a b s : Nat} (h : a < 2 ^ s) : a ||| (b * 2 ^ s) = a + b * 2 ^ s := by
  have := Nat.two_pow_add_eq_or_of_lt h b
  rw [Nat.or_comm, Nat.mul_comm b, ← this, Nat.add_comm]

theorem shift_or (k acc b : Nat) (hk : k ≤ 3) (ha : acc < 2 ^ (7 * k)) (hb : b < 128) : bits .or .u64 (acc : Int) (IntKind.u64.wrap ((b : Int) * 2 ^ (7 * k))) = ((acc + b * 2 ^ (7 * k) : Nat) : Int) := by
  have e : ((b : Int) * 2 ^ (7 * k)) = ((b * 2 ^ (7 * k) : Nat) : Int) := by simp
  have hle : 2 ^ (7 * k) ≤ 2 ^ 21 := Nat.pow_le_pow_right (by omega) (by omega)
  have hm : b * 2 ^ (7 * k) ≤ 127 * 2 ^ 21 := Nat.mul_le_mul (by omega) hle
  rw [← or_add ha, e, IntKind.wrap_u64]
  have hz : (((b * 2 ^ (7 * k) : Nat) : Int) % 18446744073709551616) = ((b * 2 ^ (7 * k) : Nat) : Int) := by omega
  rw [hz]
  exact u64_or_nat _ _ (by omega) (by omega)
theorem low7 (y : Nat) : bits .and .u8 (((y % 128 + 128 : Nat) : Int)) 127 = ((y % 128 : Nat) : Int) := by
  have := bits_mask .u8 8 (by decide) wraps_u8 7 (by decide) (((y % 128 + 128 : Nat) : Int)) (by omega) (by omega)
  have h2 : (((y % 128 + 128 : Nat) : Int) % 2 ^ 7) = ((y % 128 : Nat) : Int) := by omega
  rw [← h2]
  exact this

set_option maxHeartbeats 400000 in
theorem uvD_any (g off n cap x : Nat) (rest : List UInt8) (w : World) (hx : Hid (x < 268435456)) (hn : (uv x ++ rest).length = n) (hc : ∀ j u, (byteCells (uv x ++ rest))[j]? = some u → w.cell? ⟨g, off + j, none⟩ = some u) :
    Calls Ybaf.prog 20 #[.slice (some ⟨g, off, none⟩) n cap] w fun e w' => e = .returned (.tuple #[.int .u64 x, .int .i64 (uv x).length]) ∧ w = w' := by
  go_enter Ybaf.func20, Ybaf.ntmps20
  go_wp2
  go_loop [4, 5, 10] (fun a s i => ∃ (k f y acc : Nat) (done : List UInt8), k + f = 9 ∧ k ≤ 3 ∧ i = .int .i64 k ∧ s = .int .u64 (7 * k : Nat) ∧ a = .int .u64 acc ∧ Hid (acc < 2 ^ (7 * k)) ∧ Hid (y < 2 ^ (28 - 7 * k)) ∧ Hid (acc + y * 2 ^ (7 * k) = x) ∧ done.length = k ∧ Hid (uv x = done ++ uvF (f + 1) y)) (fun _ _ i => 10 - (intOf i).toNat)
  case atStart => exact ⟨0, 9, x, 0, [], rfl, by omega, rfl, rfl, rfl, show 0 < 2 ^ (7 * 0) by simp, show x < 2 ^ (28 - 7 * 0) by simpa using hx.out, show 0 + x * 2 ^ (7 * 0) = x by simp, rfl, rfl⟩
  case round =>
    obtain ⟨k, f, y, acc, done, hkf, hk, rfl, rfl, rfl, hacc, hy, hsum, hdl, huv⟩ := hrel
    have hkn : k < n := by
      rw [← hn, huv.out]
      have := uvF_pos (f := f) (x := y)
      simp only [List.length_append]
      omega
    have hkn' : (k : Int) < (n : Int) := by omega
    have i0 : (0 : Int) ≤ (k : Int) := Int.natCast_nonneg _
    by_cases hlt : y < 128
    · have hcell : w.cell? ⟨g, off + k, none⟩ = some (.int .u8 y) := by
        refine hc k _ ?_
        rw [huv.out, uvF_small hlt]
        have : (UInt8.ofNat y).toNat = y := by simp [UInt8.toNat_ofNat']; omega
        simp [byteCells, hdl, this]
      have hlen : (uv x).length = k + 1 := by rw [huv.out, uvF_small hlt]; simp [hdl]
      have t10 : ((k : Int) == 10) = false := by simp; omega
      have t9 : ((k : Int) == 9) = false := by simp; omega
      have tb : decide ((y : Int) < 128) = true := by simp; omega
      clear hc
      go_wp2
      go_ret2
      have ho := shift_or k acc y hk hacc.out hlt
      rw [hsum.out] at ho
      refine ⟨?_, rfl⟩
      simp [ho]
    · have hcell : w.cell? ⟨g, off + k, none⟩ = some (.int .u8 (y % 128 + 128 : Nat)) := by
        refine hc k _ ?_
        rw [huv.out, uvF_great hlt]
        have : (UInt8.ofNat (y % 128 + 128)).toNat = y % 128 + 128 := by simp [UInt8.toNat_ofNat']; omega
        simp only [byteCells]
        rw [List.getElem?_map, List.append_assoc, List.getElem?_append_right (by omega), hdl, Nat.sub_self]
        simp only [List.cons_append, List.getElem?_cons_zero, Option.map_some, this]
      have t10 : ((k : Int) == 10) = false := by simp; omega
      have t9 : ((k : Int) == 9) = false := by simp; omega
      have tb : decide (((y % 128 + 128 : Nat) : Int) < 128) = false := by simp; omega
      have hl7 := low7 y
      have hk3 : k < 3 := by
        rcases Nat.lt_or_ge k 3 with h | h
        · exact h
        · have := hy.out
          obtain rfl : k = 3 := by omega
          omega
      clear hc
      generalize hby : y % 128 + 128 = by_ at hcell tb hl7
      go_wp2
      obtain ⟨f', rfl⟩ : ∃ f', f = f' + 1 := ⟨f - 1, by omega⟩
      have ho := shift_or k acc (y % 128) hk hacc.out (by omega)
      have e1 : ((y % 128 : Nat) : Int) = (y : Int) % 128 := by omega
      rw [e1] at ho
      have hp : 2 ^ (7 * (k + 1)) = 128 * 2 ^ (7 * k) := by rw [show 7 * (k + 1) = 7 + 7 * k by omega, Nat.pow_add]
      have hq : 2 ^ (28 - 7 * k) = 128 * 2 ^ (28 - 7 * (k + 1)) := by rw [show 28 - 7 * k = 7 + (28 - 7 * (k + 1)) by omega, Nat.pow_add]
      have hs := hsum.out
      have ha := hacc.out
      have hy' := hy.out
      have hd : y = 128 * (y / 128) + y % 128 := by omega
      refine ⟨⟨k + 1, f', y / 128, acc + y % 128 * 2 ^ (7 * k), done ++ [UInt8.ofNat (y % 128 + 128)], by omega, by omega, by simp, by simp; omega, by rw [ho], ?_, ?_, ?_, by simp [hdl], ?_⟩, by simp [intOf]; omega⟩
      · show acc + y % 128 * 2 ^ (7 * k) < 2 ^ (7 * (k + 1))
        rw [hp]
        have : y % 128 * 2 ^ (7 * k) ≤ 127 * 2 ^ (7 * k) := Nat.mul_le_mul_right _ (by omega)
        omega
      · show y / 128 < 2 ^ (28 - 7 * (k + 1))
        rw [hq] at hy'
        omega
      · show acc + y % 128 * 2 ^ (7 * k) + y / 128 * 2 ^ (7 * (k + 1)) = x
        rw [hp, ← hs]
        have : y * 2 ^ (7 * k) = (128 * (y / 128) + y % 128) * 2 ^ (7 * k) := by rw [← hd]
        rw [this, Nat.add_mul, ← Nat.mul_assoc, Nat.mul_comm (y / 128) 128]
        omega
      · show uv x = _
        rw [huv.out, uvF_great hlt]
        simp
end Go.Proofs.YbulkrkuFmt
