import Derived.Test.YbulkrnmIns4
namespace Go.Proofs.Ybulkrnm
open Go.RowKit

def level3 (k G : Nat) : Array Value := #[.int .i64 (3 ^ k : Nat), .int .u64 0, .int .i64 0, .slice (some ⟨G, 0, none⟩) 3 3, .int .i64 0]
def slots3 (P : Nat) : Array Value := #[.pointer (some ⟨P, 0, none⟩), .pointer none, .pointer none, .pointer none, .pointer (some ⟨P, 0, none⟩), .pointer none, .pointer none, .pointer none, .pointer (some ⟨P, 0, none⟩), .pointer none, .pointer none, .pointer none]
def nils3 : Array Value := #[.pointer none, .pointer none, .pointer none, .pointer none, .pointer none, .pointer none, .pointer none, .pointer none, .pointer none, .pointer none, .pointer none, .pointer none]
theorem made3 : (madeCells (Value.agg #[.pointer none, .pointer none, .pointer none, .pointer none]).cells (3 * 4)).toList.toArray = nils3 := by
  kernel_rfl
/-- the world in the loop that makes the levels: k of them are made -/
structure Loop3 (B W T k : Nat) (tk cur D : Int) (fv gp : Value) (w wr : World) : Prop where
  whl : ∃ v xs, wr.heap[W]? = some (.cells (wheel tk 3 0 cur v false) 51 (0, 0)) ∧ wr.ownsRow w.heap.size 60 1 v k xs ∧ (∀ x ∈ xs, ∃ (q : Nat) (cs : Array Value), x = .pointer (some ⟨q, 0, none⟩) ∧ wr.heap[q]? = some (.cells cs 67 (0, 0))) ∧
    (0 < k → ∃ P G, xs[k - 1]? = some (.pointer (some ⟨P, 0, none⟩)) ∧ w.heap.size ≤ P ∧ w.heap.size ≤ G ∧ wr.heap[P]? = some (.cells (level3 (k - 1) G) 67 (0, 0)) ∧ wr.heap[G]? = some (.cells (slots3 P) 64 (0, 0)))
  tim : wr.heap[T]? = some (.cells (timer W fv D (.pointer none) gp) 32 (0, 0))
  same : SameBut B [W, T] w wr

/-- the slots, the first j of them told their level -/
def part3 (P : Nat) : Nat → Array Value
  | 0 => nils3
  | j + 1 => (part3 P j).setIfInBounds (j * 4) (.pointer (some ⟨P, 0, none⟩))
theorem part3_at (P j : Nat) (h : j < 3) : (part3 P j)[j * 4]? = some (.pointer none) := by
  have : j = 0 ∨ j = 1 ∨ j = 2 := by omega
  rcases this with rfl | rfl | rfl <;> rfl
theorem part3_all (P : Nat) : part3 P 3 = slots3 P := rfl
/-- the world in the loop over the slots -/
structure In3 (W P G k j : Nat) (tk cur : Int) (lv : Value) (wr w : World) : Prop where
  whl : w.heap[W]? = some (.cells (wheel tk 3 0 cur lv false) 51 (0, 0))
  lev : w.heap[P]? = some (.cells (level3 k G) 67 (0, 0))
  slt : w.heap[G]? = some (.cells (part3 P j) 64 (0, 0))
  bel : Below G wr w

theorem In3.step {W P G k j : Nat} {tk cur : Int} {lv : Value} {wr w : World} (h : In3 W P G k j tk cur lv wr w) (hW : W ≠ G) (hP : P ≠ G) : In3 W P G k (j + 1) tk cur lv wr (w.setCell ⟨G, j * 4, none⟩ (.pointer (some ⟨P, 0, none⟩))) :=
  ⟨block_other h.whl (a := ⟨G, j * 4, none⟩) hW _, block_other h.lev (a := ⟨G, j * 4, none⟩) hP _, block_set h.slt _, h.bel.setCell (p := ⟨G, j * 4, none⟩) (Nat.le_refl _) _⟩

theorem slots3_at (P j : Nat) (h : j < 3) : (slots3 P)[j * 4]? = some (.pointer (some ⟨P, 0, none⟩)) ∧ (slots3 P)[j * 4 + 1]? = some (.pointer none) ∧ (slots3 P)[j * 4 + 2]? = some (.pointer none) := by
  have : j = 0 ∨ j = 1 ∨ j = 2 := by omega
  rcases this with rfl | rfl | rfl <;> exact ⟨rfl, rfl, rfl⟩
theorem slots3_set (P T j : Nat) (h : j < 3) : (((slots3 P).setIfInBounds (j * 4 + 1) (.pointer (some ⟨T, 0, none⟩))).setIfInBounds (j * 4 + 2) (.pointer (some ⟨T, 0, none⟩)))[j * 4]? = some (.pointer (some ⟨P, 0, none⟩)) ∧
    (((slots3 P).setIfInBounds (j * 4 + 1) (.pointer (some ⟨T, 0, none⟩))).setIfInBounds (j * 4 + 2) (.pointer (some ⟨T, 0, none⟩)))[j * 4 + 1]? = some (.pointer (some ⟨T, 0, none⟩)) ∧
    (((slots3 P).setIfInBounds (j * 4 + 1) (.pointer (some ⟨T, 0, none⟩))).setIfInBounds (j * 4 + 2) (.pointer (some ⟨T, 0, none⟩)))[j * 4 + 2]? = some (.pointer (some ⟨T, 0, none⟩)) := by
  have : j = 0 ∨ j = 1 ∨ j = 2 := by omega
  rcases this with rfl | rfl | rfl <;> exact ⟨rfl, rfl, rfl⟩
theorem Loop3.len {B W T k : Nat} {tk cur D : Int} {fv gp : Value} {w wr : World} (h : Loop3 B W T k tk cur D fv gp w wr) : lvLen W wr = k := by
  obtain ⟨v, xs, hW, hown, _⟩ := h.whl
  obtain ⟨a, c, rfl, _⟩ := ownsRow_shape hown
  have : wr.cell? ⟨W, 8, none⟩ = some (.slice a k c) := cell_at (i := 8) hW rfl
  simp [lvLen, this]
theorem Loop3.next {B W T k P la lc : Nat} {lo : Option Addr} {tk cur D : Int} {fv gp v7 : Value} {w wo wi w7 : World} {xs : List Value} {o : Obj} (hL : Loop3 B W T k tk cur D fv gp w wo) (hI : In3 W P wo.heap.size k 3 tk cur (.slice lo la lc) wo wi)
    (hown : wo.ownsRow w.heap.size 60 1 (.slice lo la lc) k xs) (hptr : ∀ x ∈ xs, ∃ (q : Nat) (cs : Array Value), x = .pointer (some ⟨q, 0, none⟩) ∧ wo.heap[q]? = some (.cells cs 67 (0, 0))) (hP : wo.heap.size < P) (hg7 : (wi.alloc o).grownBy w7 (Value.slice lo la lc).ownBlock)
    (hown7 : w7.ownsRow w.heap.size 60 1 v7 (k + 1) (xs ++ [.pointer (some ⟨P, 0, none⟩)])) (hBW : B ≤ W) (hWT : ¬ W = T) (hB : B ≤ w.heap.size) : Loop3 B W T (k + 1) tk cur D fv gp w (w7.setCell ⟨W, 8, none⟩ v7) := by
  have hsz := hL.same.below.size
  have hownA : (wi.alloc o).ownsRow w.heap.size 60 1 (.slice lo la lc) k xs := World.ownsRow.alloc (own_newer hown hI.bel) o
  have hlt : ∀ q, (Value.slice lo la lc).ownBlock = some q → w.heap.size ≤ q := fun q hq => (World.ownsRow.lt hownA q hq).1
  have far : ∀ {b : Nat} {cs : Array Value} {t : TypeId}, wi.heap[b]? = some (.cells cs t (0, 0)) → t ≠ 60 → w7.heap[b]? = some (.cells cs t (0, 0)) := fun hb ht => block_far hg7 (block_old hb _) (own_ne hownA (block_old hb _) ht)
  have hW7 := far hI.whl (by decide)
  have hPW : P ≠ W := fun e => by have := hI.lev; rw [e, hI.whl] at this; simp at this
  have hGW : wo.heap.size ≠ W := fun e => by have := hI.slt; rw [e, hI.whl] at this; simp at this
  have hne : v7.ownBlock ≠ some W := fun e => own_ne hown7 hW7 (by decide) e.symm
  refine ⟨⟨v7, xs ++ [.pointer (some ⟨P, 0, none⟩)], ?_, ownsRow_setCell_other hown7 hne v7, ?_, fun _ => ⟨P, wo.heap.size, ?_, by omega, hsz, block_other (far hI.lev (by decide)) (a := ⟨W, 8, none⟩) hPW _, ?_⟩⟩, ?_, ?_, ?_⟩
  · have := block_set (i := 8) hW7 v7
    simp [wheel] at this
    exact this
  · intro x hx
    rcases List.mem_append.1 hx with h | h
    · obtain ⟨q, cs, e, hq⟩ := hptr x h
      have hqi : wi.heap[q]? = some (.cells cs 67 (0, 0)) := (hI.bel.block q (lt_of_block hq)).trans hq
      exact ⟨q, cs, e, block_other (far hqi (by decide)) (a := ⟨W, 8, none⟩) (fun (e : q = W) => by rw [e, hI.whl] at hqi; simp at hqi) _⟩
    · exact ⟨P, _, by simpa using h, block_other (far hI.lev (by decide)) (a := ⟨W, 8, none⟩) hPW _⟩
  · have hxl : xs.length = k := by simpa using hown.1
    rw [Nat.add_sub_cancel, List.getElem?_append_right (by omega), hxl, Nat.sub_self]
    rfl
  · have := far hI.slt (by decide)
    rw [part3_all] at this
    exact block_other this (a := ⟨W, 8, none⟩) hGW _
  · have ht : wi.heap[T]? = some (.cells (timer W fv D (.pointer none) gp) 32 (0, 0)) := (hI.bel.block _ (lt_of_block hL.tim)).trans hL.tim
    exact block_other (far ht (by decide)) (a := ⟨W, 8, none⟩) (fun e => hWT e.symm) _
  · exact ((((hL.same.below.trans (hI.bel.mono (by omega))).alloc (by have := hI.bel.size; omega) o)).grown hg7 (by have := hI.bel.size; simp; omega) (fun q hq => by have := hlt q hq; omega)).setCell (p := ⟨W, 8, none⟩) hBW _
  · intro q h1 h2
    have hqW : q ≠ W := fun e => h1 (by simp [e])
    rw [Below.heap_setCell _ _ _ _ hqW]
    have hqi : q < wi.heap.size := by have := hI.bel.size; omega
    rw [hg7.block q (by simp; omega) (fun e => by have := hlt q e.symm; omega), Below.heap_alloc _ _ _ hqi, hI.bel.block q (by omega), hL.same.same q h1 h2]

set_option maxRecDepth 100000 in
set_option maxHeartbeats 1000000 in
theorem ins3_any (B : Nat) (W T : Nat) (tk cur due : Int) (fv gp : Value) (w : World) (hW : w.heap[W]? = some (.cells (wheel tk 3 0 cur (.slice none 0 0) false) 51 (0, 0)))
    (hT : w.heap[T]? = some (.cells (timer W fv due (.pointer none) gp) 32 (0, 0))) (hc0 : 0 ≤ cur) (hc1 : cur ≤ 4294967295) (hd1 : due ≤ 9223372036854775807) (hBW : B ≤ W) (hBT : B ≤ T) (hB : B ≤ w.heap.size) :
    Calls Yba.prog 9 #[.pointer (some ⟨W, 0, none⟩), .pointer (some ⟨T, 0, none⟩)] w fun e w' => InsPost B W T tk 3 0 cur due fv gp w e w' := by
  have c3 : w.cell? ⟨W, 3, none⟩ = some (.int .i64 3) := cell_at (i := 3) hW rfl
  have c4 : w.cell? ⟨W, 4, none⟩ = some (.int .u64 0) := cell_at (i := 4) hW rfl
  have c7 : w.cell? ⟨W, 7, none⟩ = some (.int .i64 cur) := cell_at (i := 7) hW rfl
  have c8 : w.cell? ⟨W, 8, none⟩ = some (.slice none 0 0) := cell_at (i := 8) hW rfl
  have c10 : w.cell? ⟨W, 10, none⟩ = some (.bool false) := cell_at (i := 10) hW rfl
  have t2 : w.cell? ⟨T, 2, none⟩ = some (.int .i64 due) := cell_at (i := 2) hT rfl
  have f2 := free_at (i := 2) hT
  obtain ⟨D, hD, hD0, hD1⟩ : ∃ D : Int, (if due < cur then cur else due) = D ∧ 0 ≤ D ∧ D ≤ 9223372036854775807 := ⟨_, rfl, by split <;> omega, by split <;> omega⟩
  go_enter Yba.func9, Yba.ntmps9
  go_wp2_with fail
  go_region
  go_wp2_with fail
  have hWT : ¬ W = T := fun e => by subst e; rw [hW] at hT; simp at hT
  have hTW : ¬ T = W := fun e => hWT e.symm
  have hW1 : (w.setCell ⟨T, 2, none⟩ (.int .i64 D)).drew.heap[W]? = some (.cells (wheel tk 3 0 cur (.slice none 0 0) false) 51 (0, 0)) := block_other hW (a := ⟨T, 2, none⟩) hWT _
  have hT1 : (w.setCell ⟨T, 2, none⟩ (.int .i64 D)).drew.heap[T]? = some (.cells (timer W fv D (.pointer none) gp) 32 (0, 0)) := by
    have := block_set (i := 2) hT (.int .i64 D)
    simp [timer] at this
    exact this
  have hS1 : SameBut B [W, T] w (w.setCell ⟨T, 2, none⟩ (.int .i64 D)).drew := ((((SameBut.refl B w).mono (ls := [W, T]) (by simp)).set (p := ⟨T, 2, none⟩) hBT (by simp) _)).drew
  clear c3 c4 c7 c8 c10 t2 f2
  generalize (w.setCell ⟨T, 2, none⟩ (.int .i64 D)).drew = w1 at *
  refine (level3_any W D cur w1 (cell_at (i := 3) hW1 rfl) (cell_at (i := 4) hW1 rfl) (cell_at (i := 7) hW1 rfl)).mono ?_
  rintro e w2 ⟨⟨i, rfl, hi⟩, hbel2⟩
  have hL0 : Loop3 B W T 0 tk cur D fv gp w w2 := by
    refine ⟨⟨.slice none 0 0, [], (hbel2.block _ (lt_of_block hW1)).trans hW1, World.ownsRow_nil _ _ _ _, by simp, by omega⟩, (hbel2.block _ (lt_of_block hT1)).trans hT1, ?_⟩
    exact ⟨hS1.below.trans (hbel2.mono (Nat.le_trans hB hS1.below.size)), fun k h1 h2 => (hbel2.block k (Nat.lt_of_lt_of_le h2 hS1.below.size)).trans (hS1.same k h1 h2)⟩
  clear hW1 hT1 hS1 hbel2
  go_wp2_with fail
  go_loopw [] (fun wr => ∃ k : Nat, k ≤ i + 1 ∧ Loop3 B W T k tk cur D fv gp w wr) (fun wr => i + 1 - lvLen W wr)
  case atStart => exact ⟨0, Nat.zero_le _, hL0⟩
  case round =>
    obtain ⟨k, hk, hL⟩ := hrel
    generalize wr = wo at *
    clear hL0
    obtain ⟨v, xs, hW3, hown, hptr, hlast⟩ := hL.whl
    obtain ⟨la, lc, rfl, hrow⟩ := ownsRow_shape hown
    have c3 : wo.cell? ⟨W, 3, none⟩ = some (.int .i64 3) := cell_at (i := 3) hW3 rfl
    have c4 : wo.cell? ⟨W, 4, none⟩ = some (.int .u64 0) := cell_at (i := 4) hW3 rfl
    have c8 : wo.cell? ⟨W, 8, none⟩ = some (.slice la k lc) := cell_at (i := 8) hW3 rfl
    by_cases hlt : k ≤ i
    · have hle : (k : Int) ≤ (i : Int) := by omega
      obtain ⟨i64, hi64, hz0, hz1, hz2⟩ := info_parts info64
      have hGlt : W < wo.heap.size := lt_of_block hW3
      by_cases hk0 : k = 0
      case' pos =>
        go_wp2_with (at_make; go_must (refine wpList_make_full _ rfl _ _ 65 rfl wo.heap.size 64 i64 _ 4 Yba.underlying65 hi64 hz0 hz1 .i64 .i64 _ _ 3 rfl rfl (by simp) (by simp) (by rw [hz2]; omega) (by unfold maxLen; omega) (Nat.le_refl _) ?_; intro w4 hown4 hg4; have hG4 := own_full hown4; rw [made3] at hG4; clear hown4; have hW4 := block_old (block_far hg4 hW3 (by simp)) (.cells #[.int .i64 1, .int .u64 0, .int .i64 0, .slice (some ⟨wo.heap.size, 0, none⟩) 3 3, .int .i64 0] 67); have e8 : (w4.alloc (.cells #[.int .i64 1, .int .u64 0, .int .i64 0, .slice (some ⟨wo.heap.size, 0, none⟩) 3 3, .int .i64 0] 67)).cell? ⟨W, 8, none⟩ = some (.slice la k lc) := cell_at (i := 8) hW4 rfl; have e4 : (w4.alloc (.cells #[.int .i64 1, .int .u64 0, .int .i64 0, .slice (some ⟨wo.heap.size, 0, none⟩) 3 3, .int .i64 0] 67)).cell? ⟨W, 4, none⟩ = some (.int .u64 0) := cell_at (i := 4) hW4 rfl; have t0 : decide (0 < (k : Int)) = false := by simp; omega))
      case' neg =>
        obtain ⟨k', rfl⟩ : ∃ k', k = k' + 1 := ⟨k - 1, by omega⟩
        obtain ⟨P0, G0, hx0, hP0, hG0, hPb, hGb⟩ := hlast (by omega)
        obtain ⟨rg, hla, hrg, hrc⟩ := hrow (by omega)
        subst hla
        go_wp2_with (at_make; go_must (refine wpList_make_full _ rfl _ _ 65 rfl wo.heap.size 64 i64 _ 4 Yba.underlying65 hi64 hz0 hz1 .i64 .i64 _ _ 3 rfl rfl (by simp) (by simp) (by rw [hz2]; omega) (by unfold maxLen; omega) (Nat.le_refl _) ?_; intro w4 hown4 hg4; have hG4 := own_full hown4; rw [made3] at hG4; clear hown4; have hW4 := block_old (block_far hg4 hW3 (by simp)) (.cells #[.int .i64 1, .int .u64 0, .int .i64 0, .slice (some ⟨wo.heap.size, 0, none⟩) 3 3, .int .i64 0] 67); have e8 : (w4.alloc (.cells #[.int .i64 1, .int .u64 0, .int .i64 0, .slice (some ⟨wo.heap.size, 0, none⟩) 3 3, .int .i64 0] 67)).cell? ⟨W, 8, none⟩ = some (.slice (some ⟨rg, 0, none⟩) (k' + 1) lc) := cell_at (i := 8) hW4 rfl; have e3 : (w4.alloc (.cells #[.int .i64 1, .int .u64 0, .int .i64 0, .slice (some ⟨wo.heap.size, 0, none⟩) 3 3, .int .i64 0] 67)).cell? ⟨W, 3, none⟩ = some (.int .i64 3) := cell_at (i := 3) hW4 rfl; have e4 : (w4.alloc (.cells #[.int .i64 1, .int .u64 0, .int .i64 0, .slice (some ⟨wo.heap.size, 0, none⟩) 3 3, .int .i64 0] 67)).cell? ⟨W, 4, none⟩ = some (.int .u64 0) := cell_at (i := 4) hW4 rfl; have t0 : decide (0 < (k' : Int) + 1) = true := decide_eq_true (by omega)))
      case' neg =>
        have hbA : Below wo.heap.size wo (w4.alloc (.cells #[.int .i64 1, .int .u64 0, .int .i64 0, .slice (some ⟨wo.heap.size, 0, none⟩) 3 3, .int .i64 0] 67)) := ((Below.refl _ _).grown hg4 (Nat.le_refl _) (fun k hk => by cases hk)).alloc hg4.size _
        have hPn := block_new w4 (.cells #[.int .i64 1, .int .u64 0, .int .i64 0, .slice (some ⟨wo.heap.size, 0, none⟩) 3 3, .int .i64 0] 67)
        have pn0 := cell_at (i := 0) hPn rfl
        have fn0 := free_at (i := 0) hPn
        have hr0 := hrc k' _ hx0
        have q0 := (hbA.cell (p := ⟨rg, k', none⟩) (World.block_lt_of_cell? wo _ hr0)).trans hr0
        have s0 := (hbA.cell (p := ⟨P0, 0, none⟩) (lt_of_block hPb)).trans (cell_at (i := 0) hPb (v := .int .i64 (3 ^ k' : Nat)) rfl)
        have hS : 3 ^ k' * 3 ≤ 4052555153018976267 := by
          have h1 : 3 ^ k' ≤ 3 ^ 38 := Nat.pow_le_pow_right (by omega) (by omega)
          have h2 : (3 : Nat) ^ 38 = 1350851717672992089 := by decide
          omega
        have hS' : Hid (3 ^ k' * 3 = 3 ^ (k' + 1)) := (Nat.pow_succ 3 k').symm
        generalize 3 ^ k' = S at *
        have hSw : IntKind.i64.wrap ((S : Int) * 3) = (S : Int) * 3 := wrap64_id _ (by omega) (by omega)
        have i0 : (0 : Int) ≤ (k' : Int) := Int.natCast_nonneg _
        have i1 : (k' : Int) < (k' : Int) + 1 := by omega
        have hWP : ¬ W = w4.heap.size := by have := hg4.size; omega
        have hGP : ¬ wo.heap.size = w4.heap.size := by have := lt_of_block hG4; omega
        go_region
        have hW5 : (w4.alloc (.cells #[.int .i64 ((S : Int) * 3), .int .u64 0, .int .i64 0, .slice (some ⟨wo.heap.size, 0, none⟩) 3 3, .int .i64 0] 67)).drew.heap[W]? = some (.cells (wheel tk 3 0 cur (.slice (some ⟨rg, 0, none⟩) (k' + 1) lc) false) 51 (0, 0)) := block_old (block_far hg4 hW3 (by simp)) _
        have hP5 : (w4.alloc (.cells #[.int .i64 ((S : Int) * 3), .int .u64 0, .int .i64 0, .slice (some ⟨wo.heap.size, 0, none⟩) 3 3, .int .i64 0] 67)).drew.heap[w4.heap.size]? = some (.cells #[.int .i64 (3 ^ (k' + 1) : Nat), .int .u64 0, .int .i64 0, .slice (some ⟨wo.heap.size, 0, none⟩) 3 3, .int .i64 0] 67 (0, 0)) := by
          rw [← hS'.out, show ((S * 3 : Nat) : Int) = (S : Int) * 3 by omega]
          exact block_new w4 (.cells #[.int .i64 ((S : Int) * 3), .int .u64 0, .int .i64 0, .slice (some ⟨wo.heap.size, 0, none⟩) 3 3, .int .i64 0] 67)
        have hG5 : (w4.alloc (.cells #[.int .i64 ((S : Int) * 3), .int .u64 0, .int .i64 0, .slice (some ⟨wo.heap.size, 0, none⟩) 3 3, .int .i64 0] 67)).drew.heap[wo.heap.size]? = some (.cells nils3 64 (0, 0)) := block_old hG4 _
        have hb5 : Hid (Below wo.heap.size wo (w4.alloc (.cells #[.int .i64 ((S : Int) * 3), .int .u64 0, .int .i64 0, .slice (some ⟨wo.heap.size, 0, none⟩) 3 3, .int .i64 0] 67)).drew) := (((Below.refl _ _).grown hg4 (Nat.le_refl _) (fun k hk => by cases hk)).alloc hg4.size _).drew
        have hgP : wo.heap.size < w4.heap.size := lt_of_block hG4
        clear hbA hPn pn0 fn0 q0 s0 hSw hS hW4 e8 e3 e4 hG4 hg4 hS' hWP hGP
        generalize (w4.alloc (.cells #[.int .i64 ((S : Int) * 3), .int .u64 0, .int .i64 0, .slice (some ⟨wo.heap.size, 0, none⟩) 3 3, .int .i64 0] 67)).drew = w5 at *
        generalize w4.heap.size = P at *
        have e8 : w5.cell? ⟨W, 8, none⟩ = some (.slice (some ⟨rg, 0, none⟩) (k' + 1) lc) := cell_at (i := 8) hW5 rfl
        have e3 : w5.cell? ⟨W, 3, none⟩ = some (.int .i64 3) := cell_at (i := 3) hW5 rfl
        have e4 : w5.cell? ⟨W, 4, none⟩ = some (.int .u64 0) := cell_at (i := 4) hW5 rfl
        have p3 : w5.cell? ⟨P, 3, none⟩ = some (.slice (some ⟨wo.heap.size, 0, none⟩) 3 3) := cell_at (i := 3) hP5 rfl
        go_wp2_with fail
        clear p3
        clear hx0 hP0 hG0 hPb hGb hr0 hrc t0 i0 i1 hrg
        generalize hkk : k' + 1 = k at *
        generalize hlaa : (some ⟨rg, 0, none⟩ : Option Addr) = la at *
        clear hkk hlaa
      case' pos =>
        have hW5 := hW4
        have hP5 : (w4.alloc (.cells #[.int .i64 1, .int .u64 0, .int .i64 0, .slice (some ⟨wo.heap.size, 0, none⟩) 3 3, .int .i64 0] 67)).heap[w4.heap.size]? = some (.cells #[.int .i64 (3 ^ k : Nat), .int .u64 0, .int .i64 0, .slice (some ⟨wo.heap.size, 0, none⟩) 3 3, .int .i64 0] 67 (0, 0)) := by
          rw [hk0]
          exact block_new w4 (.cells #[.int .i64 1, .int .u64 0, .int .i64 0, .slice (some ⟨wo.heap.size, 0, none⟩) 3 3, .int .i64 0] 67)
        have hG5 := block_old hG4 (.cells #[.int .i64 1, .int .u64 0, .int .i64 0, .slice (some ⟨wo.heap.size, 0, none⟩) 3 3, .int .i64 0] 67)
        have hb5 : Hid (Below wo.heap.size wo (w4.alloc (.cells #[.int .i64 1, .int .u64 0, .int .i64 0, .slice (some ⟨wo.heap.size, 0, none⟩) 3 3, .int .i64 0] 67))) := ((Below.refl _ _).grown hg4 (Nat.le_refl _) (fun k hk => by cases hk)).alloc hg4.size _
        have hgP : wo.heap.size < w4.heap.size := lt_of_block hG4
        have e3 : (w4.alloc (.cells #[.int .i64 1, .int .u64 0, .int .i64 0, .slice (some ⟨wo.heap.size, 0, none⟩) 3 3, .int .i64 0] 67)).cell? ⟨W, 3, none⟩ = some (.int .i64 3) := cell_at (i := 3) hW4 rfl
        clear hW4 hG4 hg4
        generalize w4.alloc (.cells #[.int .i64 1, .int .u64 0, .int .i64 0, .slice (some ⟨wo.heap.size, 0, none⟩) 3 3, .int .i64 0] 67) = w5 at *
        generalize w4.heap.size = P at *
        clear hk0 t0
      all_goals
        generalize hGe : wo.heap.size = G at *
        have hI0 : In3 W P G k 0 tk cur (.slice la k lc) wo w5 := ⟨hW5, hP5, hG5, hb5.out⟩
        clear hW5 hP5 hG5 hb5 e3 e4 e8
        go_loopw [102] (fun jv wi => ∃ j : Nat, j ≤ 3 ∧ jv = .int .i64 j ∧ In3 W P G k j tk cur (.slice la k lc) wo wi) (fun jv _ => 3 - (intOf jv).toNat)
        case atStart => exact ⟨0, by omega, rfl, hI0⟩
      all_goals
        obtain ⟨j, hj, rfl, hI⟩ := hrel
        clear hI0
        by_cases hjl : j < 3
        · have p3 : wr.cell? ⟨P, 3, none⟩ = some (.slice (some ⟨G, 0, none⟩) 3 3) := cell_at (i := 3) hI.lev rfl
          have g0 := cell_at (i := j * 4) hI.slt (part3_at P j hjl)
          have fg := free_at (i := j * 4) hI.slt
          have i0 : (0 : Int) ≤ (j : Int) := Int.natCast_nonneg _
          have i1 : (j : Int) < 3 := by omega
          go_wp2_with fail
          exact ⟨⟨j + 1, by omega, by simp, hI.step (by omega) (by omega)⟩, by simp [intOf]; omega⟩
        · obtain rfl : j = 3 := by omega
          have e8 : wr.cell? ⟨W, 8, none⟩ = some (.slice la k lc) := cell_at (i := 8) hI.whl rfl
          obtain ⟨i60, hi60, hy0, hy1, hy2⟩ := info_parts info60
          subst hGe
          have hsz := hL.same.below.size
          have hownA : (wr.alloc (.cells #[.pointer (some ⟨P, 0, none⟩)] 60)).ownsRow w.heap.size 60 1 (.slice la k lc) k xs := World.ownsRow.alloc (own_newer hown hI.bel) _
          go_wp2_with (at_builtin; go_must (refine wpList_append_own _ rfl _ _ 49 rfl w.heap.size 60 i60 (.pointer none) 1 8 Yba.underlying49 hi60 hy0 hy1 hy2 rfl (by decide) (.slice la k lc) k xs rfl hownA ⟨wr.heap.size, 0, none⟩ 1 1 [.pointer (some ⟨P, 0, none⟩)] rfl rfl (cell_one_new _ _ _) (by intro u hu; simp at hu; subst hu; rfl) (by unfold maxLen; omega) (by omega) (by have := hI.bel.size; simp; omega) ?_; intro v7 w7 hown7 hg7 _; have hW7 := block_far hg7 (block_old hI.whl _) (own_ne hownA (block_old hI.whl _) (by decide)); have d8 : w7.cell? ⟨W, 8, none⟩ = some (.slice la k lc) := cell_at (i := 8) hW7 rfl; have f8 := free_at (i := 8) hW7; obtain ⟨a7, c7, hv7, _⟩ := ownsRow_shape hown7; subst hv7))
          have hN := hL.next hI hown hptr hgP hg7 hown7 hBW hWT hB
          refine ⟨⟨k + 1, by omega, hN⟩, ?_⟩
          rw [hN.len, hL.len]
          omega
    · obtain rfl : k = i + 1 := by omega
      obtain ⟨P, G, hx, hPb, hGb, hP, hG⟩ := hlast (by omega)
      obtain ⟨rg, rfl, hrg, hrc⟩ := hrow (by omega)
      rw [Nat.add_sub_cancel] at hx hP
      have q0 := hrc i _ hx
      have i0 : (0 : Int) ≤ (i : Int) := Int.natCast_nonneg _
      have i1 : (i : Int) < (i : Int) + 1 := by omega
      have t2 : wo.cell? ⟨T, 2, none⟩ = some (.int .i64 D) := cell_at (i := 2) hL.tim rfl
      have hTi := hL.tim
      have hsp : (1 : Int) ≤ ((3 ^ i : Nat) : Int) := by have : 0 < 3 ^ i := Nat.pow_pos (by omega); omega
      have hWP : ¬ W = P := fun e => by rw [← e, hW3] at hP; simp at hP
      have hWG : ¬ W = G := fun e => by rw [← e, hW3] at hG; simp at hG
      go_wp2_with fail
      have hrb : ∃ cur, wo.heap[rg]? = some (.cells cur 60 (0, 0)) := by
        rcases hown.2 with ⟨h, _⟩ | ⟨g', cap', cur', h, _, hg', _⟩
        · simp at h
        · simp only [Value.slice.injEq, Option.some.injEq, Addr.mk.injEq, and_true, true_and] at h
          obtain ⟨rfl, rfl⟩ := h
          exact ⟨_, hg'⟩
      obtain ⟨rcur, hrb⟩ := hrb
      have hrG : ¬ rg = G := fun e => by rw [← e, hrb] at hG; simp at hG
      have hrT : ¬ rg = T := fun e => by rw [← e, hrb] at hTi; simp at hTi
      have hrP : ¬ rg = P := fun e => by rw [← e, hrb] at hP; simp at hP
      go_region_held3 (fun w' => w'.cell? ⟨W, 8, none⟩ = some (.slice (some ⟨rg, 0, none⟩) (i + 1) lc) ∧ w'.cell? ⟨rg, i, none⟩ = some (.pointer (some ⟨P, 0, none⟩)) ∧ w'.cell? ⟨T, 2, none⟩ = some (.int .i64 D) ∧ w'.cell? ⟨W, 3, none⟩ = some (.int .i64 3))
        (first | go_keep)
        (first | (go_at_call 13; refine (slot3_any P G _ _ _ D wo.drew hP hsp hD0 hD1).mono ?_; rintro e w8 ⟨⟨j, rfl, hj⟩, hb8⟩; have hW8 := (hb8.block W (lt_of_block hW3)).trans hW3; have hP8 := (hb8.block P (lt_of_block hP)).trans hP; have hG8 := (hb8.block G (lt_of_block hG)).trans hG; have hT8 := (hb8.block T (lt_of_block hTi)).trans hTi; have hr8 := (hb8.block rg (lt_of_block hrb)).trans hrb; obtain ⟨hs0, hs1, hs2⟩ := slots3_at P j hj; have k8 : w8.cell? ⟨W, 8, none⟩ = some (.slice (some ⟨rg, 0, none⟩) (i + 1) lc) := cell_at (i := 8) hW8 rfl; have k3 : w8.cell? ⟨W, 3, none⟩ = some (.int .i64 3) := cell_at (i := 3) hW8 rfl; have k2 : w8.cell? ⟨T, 2, none⟩ = some (.int .i64 D) := cell_at (i := 2) hT8 rfl; have kr : w8.cell? ⟨rg, i, none⟩ = some (.pointer (some ⟨P, 0, none⟩)) := (World.cell?_of_block (w := wo) (hr8.trans hrb.symm)).trans q0) | (go_at_call 14; refine (push_any B G T P (j * 4) W D _ _ _ fv _ gp (slots3 P) w8 hG8 hs0 hs1 hs2 hT8 hP8 (by omega) hBT (by omega)).mono ?_; rintro e w9 ⟨rfl, hG9, hT9, hP9, hS9⟩; have hW9 := hS9.cells hW8 (by simp [hWG, hWT, hWP]); have hr9 := hS9.cells hr8 (by simp [hrG, hrT, hrP]); have c5 : w9.cell? ⟨W, 5, none⟩ = some (.pointer none) := cell_at (i := 5) hW9 rfl; have l8 : w9.cell? ⟨W, 8, none⟩ = some (.slice (some ⟨rg, 0, none⟩) (i + 1) lc) := cell_at (i := 8) hW9 rfl; have l3 : w9.cell? ⟨W, 3, none⟩ = some (.int .i64 3) := cell_at (i := 3) hW9 rfl; have l2 : w9.cell? ⟨T, 2, none⟩ = some (.int .i64 D) := cell_at (i := 2) hT9 rfl; have lr : w9.cell? ⟨rg, i, none⟩ = some (.pointer (some ⟨P, 0, none⟩)) := (World.cell?_of_block (w := wo) (hr9.trans hrb.symm)).trans q0))
      have hxl : xs.length = i + 1 := by simpa using hown.1
      obtain ⟨z0, z1, z2⟩ := slots3_set P T j hj
      have hfin : InsPost B W T tk 3 0 cur due fv gp w (.returned (.tuple #[])) w9 := by
        refine ⟨rfl, ?_⟩
        have hptr9 : ∀ x ∈ xs, ∃ (q : Nat) (cs : Array Value), x = .pointer (some ⟨q, 0, none⟩) ∧ w9.heap[q]? = some (.cells cs 67 (0, 0)) := fun x hx => by
          obtain ⟨q, cs, e, hq⟩ := hptr x hx
          by_cases hqP : q = P
          · exact ⟨q, _, e, by rw [hqP]; exact hP9⟩
          · have hq8 := (hb8.block q (lt_of_block hq)).trans hq
            have hqG : ¬ q = G := fun e => by rw [e, hG] at hq; simp at hq
            have hqT : ¬ q = T := fun e => by rw [e, hTi] at hq; simp at hq
            exact ⟨q, cs, e, hS9.cells hq8 (by simp [hqP, hqG, hqT])⟩
        rw [hD]
        refine ⟨⟨P, G, j * 4, i + 1, i, rg, lc, _, _, _, _, _, xs, hW9, hT9, hP9, hG9, z0, z1, z2, by omega, by omega, hxl, hx, hptr9, fun jj u hu => (World.cell?_of_block (w := wo) (hr9.trans hrb.symm)).trans (hrc jj u hu)⟩, ?_, ?_⟩
        · have h1 : Below B wo w8 := by
            have h2 : Below B wo.drew w8 := hb8.mono (by have := hL.same.below.size; show B ≤ wo.heap.size; omega)
            exact ((Below.refl B wo).drew).trans h2
          exact (hL.same.below.trans h1).trans hS9.below
        · intro q h1 h2
          have hsz := hL.same.below.size
          have hq8 : q < w8.heap.size := Nat.lt_of_lt_of_le (by show q < wo.heap.size; omega) hb8.size
          have hqT : q ≠ T := fun e => h1 (by simp [e])
          rw [hS9.same q (by simp; omega) hq8, hb8.block q (by show q < wo.heap.size; omega)]
          exact hL.same.same q h1 h2
      go_wp2
      go_end0
      exact hfin
end Go.Proofs.Ybulkrnm
