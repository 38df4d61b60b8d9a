import Derived.Test.YbulkrkuRows
import Derived.Test.YbulkrkuBuf
import Derived.Test.YbulkrkuUv
namespace Go.Proofs.Ybulkrku
open Go.RowKit

theorem info5 : (Yba.prog.info? 5).map (fun i => (i.zero, i.size, i.bytes)) = some (some (.int .u8 0), 1, 1) := by kernel_rfl

theorem news_one {w : World} {t : TypeId} {x : Int} {u : UInt8} (h : x = (u.toNat : Int)) : ∀ j z, (byteCells [u])[j]? = some z → (w.alloc (.cells #[.int .u8 x] t)).cell? ((⟨w.heap.size, 0, none⟩ : Addr).add j) = some z := by
  subst h
  exact cell_one_new w (.int .u8 u.toNat) t

set_option maxRecDepth 100000 in
set_option maxHeartbeats 400000 in
theorem appendUv_any (base : Nat) (v : Value) (l : List UInt8) (x : Nat) (w : World) (hx : Hid (x < 128 ^ 10)) (hb : BufIs w base v l) (hbase : base ≤ w.heap.size) (hl : l.length + 10 ≤ 140737488355328) :
    Calls Yba.prog 16 #[v, .int .u64 x] w fun e w' => ∃ v', e = .returned v' ∧ BufIs w' base v' (l ++ uv x) ∧ Below base w w' := by
  obtain ⟨i5, hi, hz0, hz1, hz2⟩ := info_parts info5
  go_enter Yba.func16, Yba.ntmps16
  go_wp2
  go_loopw [0, 1] (fun b y wr => ∃ (f k : Nat) (done : List UInt8), f ≤ 9 ∧ Hid (k < 128 ^ (f + 1)) ∧ done.length + (f + 1) ≤ l.length + 10 ∧ y = .int .u64 k ∧ BufIs wr base b done ∧ Hid (done ++ uvF (f + 1) k = l ++ uv x) ∧ Below base w wr ∧ base ≤ wr.heap.size) (fun _ y _ => (intOf y).toNat)
  case atStart => exact ⟨9, x, l, by omega, hx, by omega, rfl, hb, rfl, Below.refl _ _, hbase⟩
  case round =>
    obtain ⟨f, k, done, hf, hk, hdl, rfl, hbr, heq, hbel, hsz⟩ := hrel
    obtain ⟨ba, bc, hbs⟩ := hbr.shape
    subst hbs
    by_cases hlt : k < 128
    · have hsm : (k : Int) = ((UInt8.ofNat k).toNat : Int) := by have := byte_small k hlt; omega
      have hfin : done ++ [UInt8.ofNat k] = l ++ uv x := by rw [← heq.out, uvF_small hlt]
      generalize UInt8.ofNat k = u at hsm hfin
      have HF : Hid (done ++ [u] = l ++ uv x) := hfin
      have HS : Hid ((k : Int) = (u.toNat : Int)) := hsm
      clear hfin hsm
      go_wp2_with (at_builtin; go_must (refine wpList_append_buf _ rfl _ _ 65 rfl 5 i5 Yba.underlying65 hi hz0 hz1 hz2 base _ done rfl (hbr.alloc _) ⟨wr.heap.size, 0, none⟩ 1 1 [u] rfl rfl (news_one HS.out) (by omega) (by simp; omega) ?_; intro v' w1 hb1 hg1))
      go_ret
      refine ⟨v', rfl, by rw [← HF.out]; exact hb1, ?_⟩
      exact (hbel.alloc hsz _).grown hg1 (by simp; omega) (fun j hj => (hbr.lt j hj).1)
    · have hor := bits_or128 k
      generalize hu : UInt8.ofNat (k % 128 + 128) = u at hor
      go_wp2_with (at_builtin; go_must (refine wpList_append_buf _ rfl _ _ 65 rfl 5 i5 Yba.underlying65 hi hz0 hz1 hz2 base _ done rfl (hbr.alloc _) ⟨wr.heap.size, 0, none⟩ 1 1 [u] rfl rfl (cell_one_new _ _ _) (by omega) (by simp; omega) ?_; intro v' w1 hb1 hg1))
      obtain ⟨f', rfl⟩ : ∃ f', f = f' + 1 := by
        cases f with
        | zero => have := hk.out; simp at this; omega
        | succ f' => exact ⟨f', rfl⟩
      have hk' : k / 128 < 128 ^ (f' + 1) := by have := hk.out; rw [Nat.pow_succ] at this; omega
      have hbel1 : Below base w w1 := (hbel.alloc hsz _).grown hg1 (by simp; omega) (fun j hj => (hbr.lt j hj).1)
      go_roundw
      case rel => exact ⟨f', k / 128, done ++ [u], by omega, hk', by simp; omega, by go_num, hb1, by rw [← hu]; rw [uvF_great hlt] at heq; simpa using heq, hbel1, Nat.le_trans hbase hbel1.size⟩
      case measure => simp [intOf]; omega

set_option maxHeartbeats 400000 in
theorem child_any (p : ByteArray) (i : Nat) (w : World) (hi : i ≤ 1024) (hp : p.size ≤ 140737488351232) :
    Calls Yba.prog 13 #[.string p, .int .i64 i] w fun e w' => e = .returned (.string (childOf p i)) ∧ Below w.heap.size w w' := by
  have hcv := fun w' => run_bytes_of_string (P := Yba.prog) w' 49 65 5 p Yba.underlying49 Yba.underlying65 Yba.underlying5
  go_enter Yba.func13, Yba.ntmps13
  go_wp2_with fail
  have hcap1 := grownCap_ge w p.size 0 5
  have hcap2 := grownCap_le_maxLen w p.size 0 5 (by unfold maxLen; omega)
  have hb0 := BufIs.of_string w p 5 _ hcap1 hcap2
  have hl : p.data.toList.length = p.size := by simp
  refine (appendUv_any w.heap.size _ p.data.toList i _ (show i < 128 ^ 10 by omega) hb0 (by simp) (by rw [hl]; omega)).mono ?_
  rintro e w1 ⟨v', rfl, hb1, hbel1⟩
  have hst := hb1.str (P := Yba.prog) 65 49 5 Yba.underlying65 Yba.underlying5 Yba.underlying49
  go_wp2
  go_ret
  exact ⟨rfl, ((Below.refl w.heap.size w).drew.alloc (Nat.le_refl _) _).trans hbel1⟩

end Go.Proofs.Ybulkrku
