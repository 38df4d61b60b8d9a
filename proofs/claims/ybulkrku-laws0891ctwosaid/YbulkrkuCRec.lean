import Derived.Test.YbulkrkuCTal
namespace Go.Proofs.Ybulkrku
open Go.RowKit Go.WideMaps

theorem info47 : (Yba.prog.info? 47).map (fun i => (i.zero, i.size, i.bytes)) = some (some (.string ⟨#[]⟩), 1, 16) := by kernel_rfl

/-- a slice of strings, as it lies in w -/
def StrsIs (w : World) (B : Nat) (a : Option Addr) (n : Nat) (S : Nat → ByteArray) : Prop :=
  n = 0 ∨ ∃ b off, b < B ∧ a = some ⟨b, off, none⟩ ∧ ∀ i, i < n → w.cell? ⟨b, off + i, none⟩ = some (.string (S i))
theorem StrsIs.below {w w' : World} {B : Nat} {a : Option Addr} {n : Nat} {S : Nat → ByteArray} (h : StrsIs w B a n S) (hb : Below B w w') : StrsIs w' B a n S := by
  rcases h with h | ⟨b, off, h1, h2, h3⟩
  · exact .inl h
  · exact .inr ⟨b, off, h1, h2, fun i hi => (hb.cell (p := ⟨b, off + i, none⟩) h1).trans (h3 i hi)⟩
theorem StrsIs.mono {w : World} {B B' : Nat} {a : Option Addr} {n : Nat} {S : Nat → ByteArray} (h : StrsIs w B a n S) (hb : B ≤ B') : StrsIs w B' a n S := by
  rcases h with h | ⟨b, off, h1, h2, h3⟩
  · exact .inl h
  · exact .inr ⟨b, off, by omega, h2, h3⟩

def mix (n : Nat) (S : Nat → ByteArray) (k : Nat) : List Value := (List.range n).map fun j => if j < k then .string (S j) else .string ⟨#[]⟩
theorem mix_zero (n : Nat) (S : Nat → ByteArray) : mix n S 0 = List.replicate n (.string ⟨#[]⟩) := by
  apply List.ext_getElem?
  intro j
  by_cases h : j < n <;> simp [mix, h]
theorem mix_set (n : Nat) (S : Nat → ByteArray) (k : Nat) : (mix n S k).set k (.string (S k)) = mix n S (k + 1) := by
  apply List.ext_getElem?
  intro j
  by_cases h : j < n
  · by_cases e : k = j
    · subst e; simp [mix, h]
    · rw [List.getElem?_set_ne e]
      have : (j < k) = (j < k + 1) := by simp; omega
      simp [mix, h, this]
  · simp [mix, h]
theorem mix_get {n k : Nat} (S : Nat → ByteArray) (h : k < n) : (mix n S n)[k]? = some (.string (S k)) := by simp [mix, h]
theorem mix_some {n k j : Nat} (S : Nat → ByteArray) (h : j < n) : ∃ v, (mix n S k)[j]? = some v := by simp [mix, h]

theorem two_new {w w1 : World} {b0 b1 : Obj} (hg : ((w.alloc b0).alloc b1).grownBy w1 none) : w1.heap[w.heap.size]? = some b0 ∧ w1.heap[w.heap.size + 1]? = some b1 :=
  ⟨block_far hg (block_old (block_new w b0) b1) (by simp), block_far hg (block_at (by simp) b1) (by simp)⟩

set_option maxRecDepth 100000 in
set_option maxHeartbeats 400000 in
theorem crec_any (fr pt : ByteArray) (dp : Int) (sa : Option Addr) (n sc : Nat) (lo pa : Bool) (S : Nat → ByteArray) (w : World) (hn : n ≤ 1024) (hS : StrsIs w w.heap.size sa n S) :
    Calls Yba.prog 11 #[.agg #[.string fr, .string pt, .int .i64 dp, .slice sa n sc, .bool lo, .bool pa]] w fun e w' => ∃ g, e = .returned (.agg #[.int .u64 0, .string fr, .string pt, .int .i64 dp, .slice (some ⟨g, 0, none⟩) n n, .bool lo, .bool pa]) ∧
      w'.ownsRow w.heap.size 47 1 (.slice (some ⟨g, 0, none⟩) n n) n (mix n S n) ∧ Below w.heap.size w w' := by
  obtain ⟨i47, hi, hz0, hz1, hz2⟩ := info_parts info47
  go_enter Yba.func11, Yba.ntmps11
  go_wp2_with (at_make; go_must (refine wpList_make_full _ rfl _ _ 50 rfl w.heap.size 47 i47 _ 1 Yba.underlying50 hi hz0 hz1 .i64 .i64 _ _ n rfl rfl (by simp) (by simp) (by rw [hz2]; omega) (by unfold maxLen; omega) (by simp; omega) ?_; intro w1 hown hg; simp only [World.size_alloc, Nat.mul_one] at hown; rw [show (Value.string ⟨#[]⟩).cells = #[Value.string ⟨#[]⟩] from rfl, toList_madeCells_one, ← mix_zero n S] at hown; obtain ⟨hb0, hb1⟩ := two_new hg; have x3 := cell_at (i := 3) hb0 rfl))
  have hbel1 : Below w.heap.size w w1 := (((Below.refl w.heap.size w).alloc (Nat.le_refl _) _).alloc (by simp) _).grown hg (by simp; omega) (fun k hk => by cases hk)
  have hsz1 : w.heap.size + 1 + 1 ≤ w1.heap.size := by have := hg.size; simpa using this
  clear hg
  go_loopw [13] (fun i wr => ∃ k : Nat, k ≤ n ∧ i = .int .i64 k ∧ wr.ownsRow w.heap.size 47 1 (.slice (some ⟨w.heap.size + 1 + 1, 0, none⟩) n n) n (mix n S k) ∧ Below (w.heap.size + 1 + 1) w1 wr) (fun i _ => n - (intOf i).toNat)
  case atStart => exact ⟨0, Nat.zero_le _, rfl, hown, Below.refl _ _⟩
  case round =>
    obtain ⟨k, hk, rfl, hownr, hbr⟩ := hrel
    have hbelr : Below w.heap.size w wr := hbel1.trans (hbr.mono (by omega))
    by_cases hlt : k < n
    · rcases hS.below hbelr with h0 | ⟨b, off, hb, rfl, hc⟩
      · omega
      have hck := hc k hlt
      obtain ⟨ov, hov⟩ := mix_some (k := k) S hlt
      have hd := (hownr.cellAt k (by omega)).trans hov
      have hf := hownr.frozenAt k
      have hst := hownr.stored k (.string (S k))
      rw [mix_set] at hst
      clear hc hov hown hbel1 hS hb0 hb1 x3
      go_wp2
      go_roundw
      case rel => exact ⟨k + 1, by omega, by go_num, hst.1, hbr.setCell (by simp) _⟩
      case measure => simp [intOf]; omega
    · obtain rfl : k = n := by omega
      have hb0r := hb0
      rw [← hbr.block w.heap.size (by omega)] at hb0r
      have hb1r := hb1
      rw [← hbr.block (w.heap.size + 1) (by omega)] at hb1r
      have y0 := cell_at (i := 0) hb0r rfl
      have y1 := cell_at (i := 1) hb0r rfl
      have y2 := cell_at (i := 2) hb0r rfl
      have y4 := cell_at (i := 4) hb0r rfl
      have y5 := cell_at (i := 5) hb0r rfl
      have z0 := cell_at (i := 0) hb1r rfl
      have z1 := cell_at (i := 1) hb1r rfl
      have z2 := cell_at (i := 2) hb1r rfl
      have z3 := cell_at (i := 3) hb1r rfl
      have z4 := cell_at (i := 4) hb1r rfl
      have z5 := cell_at (i := 5) hb1r rfl
      have z6 := cell_at (i := 6) hb1r rfl
      have fz : ∀ i, wr.frozen? ⟨w.heap.size + 1, i, none⟩ = false := fun i => free_at hb1r
      clear hown hbel1 hS hb0 hb1 x3 hb0r hb1r
      go_wp2
      refine bodyPost_ret (v := .agg #[.int .u64 0, .string fr, .string pt, .int .i64 dp, .slice (some ⟨w.heap.size + 1 + 1, 0, none⟩) k k, .bool lo, .bool pa]) (by simp [results, Yba.results11, go_sem, z0, z1, z2, z3, z4, z5, z6]) rfl ⟨_, rfl, ?_, ?_⟩
      · repeat (refine ownsRow_setCell_other ?_ (by simp [Value.ownBlock]) _)
        exact hownr
      · repeat (refine Below.setCell ?_ (by simp) _)
        exact hbelr
end Go.Proofs.Ybulkrku
