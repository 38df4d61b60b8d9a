import Derived.WalkKit
namespace Go.Proofs.YbulkrkuFmt

/-- the bytes of a varint, f of them at most -/
def uvF : Nat → Nat → List UInt8
  | 0, _ => []
  | f + 1, x => if x < 128 then [UInt8.ofNat x] else UInt8.ofNat (x % 128 + 128) :: uvF f (x / 128)
def uv (x : Nat) : List UInt8 := uvF 10 x

theorem uvF_small {f x : Nat} (h : x < 128) : uvF (f + 1) x = [UInt8.ofNat x] := by simp [uvF, h]
theorem uvF_great {f x : Nat} (h : ¬ x < 128) : uvF (f + 1) x = UInt8.ofNat (x % 128 + 128) :: uvF f (x / 128) := by simp [uvF, h]
theorem uvF_pos {f x : Nat} : 0 < (uvF (f + 1) x).length := by
  unfold uvF; split <;> simp
theorem uvF_le : ∀ (f x : Nat), (uvF f x).length ≤ f
  | 0, _ => by simp [uvF]
  | f + 1, x => by unfold uvF; split; · simp
                   · have := uvF_le f (x / 128); simp; omega
theorem uv_le (x : Nat) : (uv x).length ≤ 10 := uvF_le 10 x
theorem uv_pos (x : Nat) : 0 < (uv x).length := uvF_pos

theorem ofNat_inj {a b : Nat} (ha : a < 256) (hb : b < 256) (h : UInt8.ofNat a = UInt8.ofNat b) : a = b := by
  have := congrArg UInt8.toNat h
  simp [UInt8.toNat_ofNat'] at this
  omega
theorem uvF_inj : ∀ (f x y : Nat), x < 128 ^ f → y < 128 ^ f → uvF f x = uvF f y → x = y
  | 0, x, y, hx, hy, _ => by simp at hx hy; omega
  | f + 1, x, y, hx, hy, h => by
    have e : (128 : Nat) ^ (f + 1) = 128 ^ f * 128 := Nat.pow_succ 128 f
    by_cases h1 : x < 128 <;> by_cases h2 : y < 128
    · rw [uvF_small h1, uvF_small h2] at h
      exact ofNat_inj (by omega) (by omega) (List.cons.inj h).1
    · rw [uvF_small h1, uvF_great h2] at h
      have := ofNat_inj (by omega) (by omega) (List.cons.inj h).1
      omega
    · rw [uvF_great h1, uvF_small h2] at h
      have := ofNat_inj (by omega) (by omega) (List.cons.inj h).1
      omega
    · rw [uvF_great h1, uvF_great h2] at h
      have a := ofNat_inj (by omega) (by omega) (List.cons.inj h).1
      have b := uvF_inj f (x / 128) (y / 128) (by omega) (by omega) (List.cons.inj h).2
      omega
theorem uv_inj {x y : Nat} (hx : x < 18446744073709551616) (hy : y < 18446744073709551616) (h : uv x = uv y) : x = y :=
  uvF_inj 10 x y (by omega) (by omega) h

theorem or128 (a : Nat) (ha : a < 256) : a ||| 128 = a % 128 + 128 := by
  have h : ∀ b : Fin 256, b.val ||| 128 = b.val % 128 + 128 := by decide +kernel
  exact h ⟨a, ha⟩
theorem bits_or128 (k : Nat) : bits .or .u8 ((k : Int) % 256) 128 = ((UInt8.ofNat (k % 128 + 128)).toNat : Int) := by
  have e : ((k : Int) % 256) = ((k % 256 : Nat) : Int) := by omega
  rw [e, show (128 : Int) = ((128 : Nat) : Int) from rfl, u8_or_nat _ _ (by omega) (by omega), or128 _ (by omega)]
  have : (UInt8.ofNat (k % 128 + 128)).toNat = k % 128 + 128 := by simp [UInt8.toNat_ofNat']; omega
  rw [this]
  omega
theorem byte_small (k : Nat) (h : k < 128) : (k : Int) % 256 = ((UInt8.ofNat k).toNat : Int) := by
  have : (UInt8.ofNat k).toNat = k := by simp [UInt8.toNat_ofNat']; omega
  rw [this]
  omega

/-- the child's name -/
def childOf (p : ByteArray) (i : Nat) : ByteArray := ⟨(p.data.toList ++ uv i).toArray⟩
theorem childOf_size (p : ByteArray) (i : Nat) : (childOf p i).size = p.size + (uv i).length := by
  show (p.data.toList ++ uv i).toArray.size = _
  simp
theorem childOf_ne (p : ByteArray) (i : Nat) : childOf p i ≠ p := fun h => by
  have := congrArg ByteArray.size h
  rw [childOf_size] at this
  have := uv_pos i
  omega
theorem childOf_inj {p : ByteArray} {i j : Nat} (hi : i < 18446744073709551616) (hj : j < 18446744073709551616) (h : childOf p i = childOf p j) : i = j := by
  have := congrArg (fun b => b.data.toList) h
  simp only [childOf, List.toList_toArray] at this
  exact uv_inj hi hj (List.append_cancel_left this)
theorem childOf_pos (p : ByteArray) (i : Nat) : 0 < (childOf p i).size := by rw [childOf_size]; have := uv_pos i; omega
end Go.Proofs.YbulkrkuFmt
