import Derived.Test.YbulkrnmSlot
namespace Go.Proofs.Ybulkrnm
open Go.RowKit

/-- the wheel's cells -/
def wheel (tk sz sh cur : Int) (lv : Value) (st : Bool) : Array Value := #[.int .i32 0, .int .u32 0, .int .i64 tk, .int .i64 sz, .int .u64 sh, .pointer none, .int .i64 0, .int .i64 cur, lv, .bool false, .bool st]
/-- a timer's cells -/
def timer (W : Nat) (fv : Value) (due : Int) (slot gp : Value) : Array Value := #[.pointer (some ⟨W, 0, none⟩), fv, .int .i64 due, slot, .pointer none, .pointer none, gp]

set_option maxRecDepth 100000 in
set_option maxHeartbeats 400000 in
theorem ins_stopped (W T : Nat) (tk sz sh cur : Int) (lv : Value) (w : World) (hW : w.heap[W]? = some (.cells (wheel tk sz sh cur lv true) 51 (0, 0))) :
    Calls Yba.prog 9 #[.pointer (some ⟨W, 0, none⟩), .pointer (some ⟨T, 0, none⟩)] w fun e w' => e = .returned (.tuple #[]) ∧ w = w' := by
  have c10 : w.cell? ⟨W, 10, none⟩ = some (.bool true) := cell_at (i := 10) hW rfl
  go_enter Yba.func9, Yba.ntmps9
  go_wp2
  refine bodyPost_ret (v := .tuple #[]) (by simp [results, Yba.results9]) rfl ?_
  exact ⟨rfl, rfl⟩

/-- the levels' own numbers -/
def level4 (k G : Nat) : Array Value := #[.int .i64 (4 ^ k : Nat), .int .u64 (2 * k : Nat), .int .i64 3, .slice (some ⟨G, 0, none⟩) 4 4, .int .i64 0]
def slots4 (P : Nat) : Array Value := #[.pointer (some ⟨P, 0, none⟩), .pointer none, .pointer none, .pointer none, .pointer (some ⟨P, 0, none⟩), .pointer none, .pointer none, .pointer none, .pointer (some ⟨P, 0, none⟩), .pointer none, .pointer none, .pointer none, .pointer (some ⟨P, 0, none⟩), .pointer none, .pointer none, .pointer none]
/-- the world in the loop that makes the levels: k of them are made -/
structure Loop4 (B W T k : Nat) (tk cur D : Int) (fv gp : Value) (w wr : World) : Prop where
  whl : ∃ v xs, wr.heap[W]? = some (.cells (wheel tk 4 2 cur v false) 51 (0, 0)) ∧ wr.ownsRow w.heap.size 60 1 v k xs ∧ (∀ x ∈ xs, ∃ (q : Nat) (cs : Array Value), x = .pointer (some ⟨q, 0, none⟩) ∧ wr.heap[q]? = some (.cells cs 67 (0, 0))) ∧
    (0 < k → ∃ P G, xs[k - 1]? = some (.pointer (some ⟨P, 0, none⟩)) ∧ w.heap.size ≤ P ∧ w.heap.size ≤ G ∧ wr.heap[P]? = some (.cells (level4 (k - 1) G) 67 (0, 0)) ∧ wr.heap[G]? = some (.cells (slots4 P) 64 (0, 0)))
  tim : wr.heap[T]? = some (.cells (timer W fv D (.pointer none) gp) 32 (0, 0))
  same : SameBut B [W, T] w wr

/-- how many levels lie there -/
def lvLen (W : Nat) (w : World) : Nat := match w.cell? ⟨W, 8, none⟩ with | some (.slice _ n _) => n | _ => 0
theorem ownsRow_shape {w : World} {base n : Nat} {e : TypeId} {v : Value} {xs : List Value} (h : w.ownsRow base e 1 v n xs) : ∃ a c, v = .slice a n c ∧ (0 < n → ∃ g, a = some ⟨g, 0, none⟩ ∧ base ≤ g ∧ ∀ j u, xs[j]? = some u → w.cell? ⟨g, j, none⟩ = some u) := by
  have hc := h
  rcases h.2 with ⟨rfl, h0⟩ | ⟨g, cap, cur, rfl, hb, hg, _⟩
  · subst h0
    exact ⟨none, 0, rfl, fun h => by omega⟩
  · refine ⟨_, cap, rfl, fun _ => ⟨g, rfl, hb, fun j u hu => ?_⟩⟩
    have := World.ownsRow.cells hc (g := g) rfl j u hu
    have he : (⟨g, 0, none⟩ : Addr).add j = ⟨g, j, none⟩ := by unfold Addr.add; split <;> simp_all
    rwa [he] at this

theorem info64 : (Yba.prog.info? 64).map (fun i => (i.zero, i.size, i.bytes)) = some (some (.agg #[.pointer none, .pointer none, .pointer none, .pointer none]), 4, 32) := by kernel_rfl
theorem info60 : (Yba.prog.info? 60).map (fun i => (i.zero, i.size, i.bytes)) = some (some (.pointer none), 1, 8) := by kernel_rfl
/-- a row that is full: the block, whole -/
theorem own_full {w : World} {base : Nat} {e : TypeId} {g n size : Nat} {xs : List Value} (h : w.ownsRow base e size (.slice (some ⟨g, 0, none⟩) n n) n xs) : w.heap[g]? = some (.cells xs.toArray e (0, 0)) := by
  rcases h.2 with ⟨h', _⟩ | ⟨g', cap, cur, h', _, hg, _, _, hcs, htk⟩
  · simp at h'
  · simp only [Value.slice.injEq, Option.some.injEq, Addr.mk.injEq, and_true, true_and] at h'
    obtain ⟨rfl, rfl⟩ := h'
    rw [hg, ← htk, List.take_of_length_le (by simp [hcs])]
def nils4 : Array Value := #[.pointer none, .pointer none, .pointer none, .pointer none, .pointer none, .pointer none, .pointer none, .pointer none, .pointer none, .pointer none, .pointer none, .pointer none, .pointer none, .pointer none, .pointer none, .pointer none]
theorem made4 : (madeCells (Value.agg #[.pointer none, .pointer none, .pointer none, .pointer none]).cells (4 * 4)).toList.toArray = nils4 := by
  kernel_rfl

/-- the slots, the first j of them told their level -/
def part4 (P : Nat) : Nat → Array Value
  | 0 => nils4
  | j + 1 => (part4 P j).setIfInBounds (j * 4) (.pointer (some ⟨P, 0, none⟩))
theorem part4_at (P j : Nat) (h : j < 4) : (part4 P j)[j * 4]? = some (.pointer none) := by
  have : j = 0 ∨ j = 1 ∨ j = 2 ∨ j = 3 := by omega
  rcases this with rfl | rfl | rfl | rfl <;> rfl
theorem part4_all (P : Nat) : part4 P 4 = slots4 P := rfl
/-- the world in the loop over the slots -/
structure In4 (W P G k j : Nat) (tk cur : Int) (lv : Value) (wr w : World) : Prop where
  whl : w.heap[W]? = some (.cells (wheel tk 4 2 cur lv false) 51 (0, 0))
  lev : w.heap[P]? = some (.cells (level4 k G) 67 (0, 0))
  slt : w.heap[G]? = some (.cells (part4 P j) 64 (0, 0))
  bel : Below G wr w

theorem In4.step {W P G k j : Nat} {tk cur : Int} {lv : Value} {wr w : World} (h : In4 W P G k j tk cur lv wr w) (hW : W ≠ G) (hP : P ≠ G) : In4 W P G k (j + 1) tk cur lv wr (w.setCell ⟨G, j * 4, none⟩ (.pointer (some ⟨P, 0, none⟩))) :=
  ⟨block_other h.whl (a := ⟨G, j * 4, none⟩) hW _, block_other h.lev (a := ⟨G, j * 4, none⟩) hP _, block_set h.slt _, h.bel.setCell (p := ⟨G, j * 4, none⟩) (Nat.le_refl _) _⟩

theorem own_newer {w w' : World} {base n : Nat} {e : TypeId} {v : Value} {xs : List Value} (h : w.ownsRow base e 1 v n xs) (hb : Below w.heap.size w w') : w'.ownsRow base e 1 v n xs :=
  World.ownsRow.kept h (row := some w.heap.size) ⟨hb.os, hb.tape, hb.output, hb.size, fun k hk _ => hb.block k hk⟩ (.inr (fun e => by have := (World.ownsRow.lt h _ e).2; omega))
theorem slots4_at (P j : Nat) (h : j < 4) : (slots4 P)[j * 4]? = some (.pointer (some ⟨P, 0, none⟩)) ∧ (slots4 P)[j * 4 + 1]? = some (.pointer none) ∧ (slots4 P)[j * 4 + 2]? = some (.pointer none) := by
  have : j = 0 ∨ j = 1 ∨ j = 2 ∨ j = 3 := by omega
  rcases this with rfl | rfl | rfl | rfl <;> exact ⟨rfl, rfl, rfl⟩
/-- what the placing of a timer leaves -/
structure Placed (B W T : Nat) (tk sz sh cur due : Int) (fv gp : Value) (w w' : World) : Prop where
  ex : ∃ (P G o n i : Nat) (rg lc : Nat) (gs : Array Value) (span s mask : Int) (sv : Value) (xs : List Value),
    w'.heap[W]? = some (.cells (wheel tk sz sh cur (.slice (some ⟨rg, 0, none⟩) n lc) false) 51 (0, 0)) ∧
    w'.heap[T]? = some (.cells #[.pointer (some ⟨W, 0, none⟩), fv, .int .i64 due, .pointer (some ⟨G, o, none⟩), .pointer none, .pointer none, gp] 32 (0, 0)) ∧
    w'.heap[P]? = some (.cells #[.int .i64 span, .int .u64 s, .int .i64 mask, sv, .int .i64 1] 67 (0, 0)) ∧
    w'.heap[G]? = some (.cells gs 64 (0, 0)) ∧ gs[o]? = some (.pointer (some ⟨P, 0, none⟩)) ∧ gs[o + 1]? = some (.pointer (some ⟨T, 0, none⟩)) ∧ gs[o + 2]? = some (.pointer (some ⟨T, 0, none⟩)) ∧
    i < n ∧ n ≤ 100 ∧ xs.length = n ∧ xs[i]? = some (.pointer (some ⟨P, 0, none⟩)) ∧ (∀ x ∈ xs, ∃ (q : Nat) (cs : Array Value), x = .pointer (some ⟨q, 0, none⟩) ∧ w'.heap[q]? = some (.cells cs 67 (0, 0))) ∧ (∀ j u, xs[j]? = some u → w'.cell? ⟨rg, j, none⟩ = some u)
  same : SameBut B [W, T] w w'
def InsPost (B W T : Nat) (tk sz sh cur due : Int) (fv gp : Value) (w : World) (e : Ending) (w' : World) : Prop := e = .returned (.tuple #[]) ∧ Placed B W T tk sz sh cur (if due < cur then cur else due) fv gp w w'
theorem slots4_set (P T j : Nat) (h : j < 4) : (((slots4 P).setIfInBounds (j * 4 + 1) (.pointer (some ⟨T, 0, none⟩))).setIfInBounds (j * 4 + 2) (.pointer (some ⟨T, 0, none⟩)))[j * 4]? = some (.pointer (some ⟨P, 0, none⟩)) ∧
    (((slots4 P).setIfInBounds (j * 4 + 1) (.pointer (some ⟨T, 0, none⟩))).setIfInBounds (j * 4 + 2) (.pointer (some ⟨T, 0, none⟩)))[j * 4 + 1]? = some (.pointer (some ⟨T, 0, none⟩)) ∧
    (((slots4 P).setIfInBounds (j * 4 + 1) (.pointer (some ⟨T, 0, none⟩))).setIfInBounds (j * 4 + 2) (.pointer (some ⟨T, 0, none⟩)))[j * 4 + 2]? = some (.pointer (some ⟨T, 0, none⟩)) := by
  have : j = 0 ∨ j = 1 ∨ j = 2 ∨ j = 3 := by omega
  rcases this with rfl | rfl | rfl | rfl <;> exact ⟨rfl, rfl, rfl⟩
theorem Loop4.len {B W T k : Nat} {tk cur D : Int} {fv gp : Value} {w wr : World} (h : Loop4 B W T k tk cur D fv gp w wr) : lvLen W wr = k := by
  obtain ⟨v, xs, hW, hown, _⟩ := h.whl
  obtain ⟨a, c, rfl, _⟩ := ownsRow_shape hown
  have : wr.cell? ⟨W, 8, none⟩ = some (.slice a k c) := cell_at (i := 8) hW rfl
  simp [lvLen, this]
theorem Loop4.next {B W T k P la lc : Nat} {lo : Option Addr} {tk cur D : Int} {fv gp v7 : Value} {w wo wi w7 : World} {xs : List Value} {o : Obj} (hL : Loop4 B W T k tk cur D fv gp w wo) (hI : In4 W P wo.heap.size k 4 tk cur (.slice lo la lc) wo wi)
    (hown : wo.ownsRow w.heap.size 60 1 (.slice lo la lc) k xs) (hptr : ∀ x ∈ xs, ∃ (q : Nat) (cs : Array Value), x = .pointer (some ⟨q, 0, none⟩) ∧ wo.heap[q]? = some (.cells cs 67 (0, 0))) (hP : wo.heap.size < P) (hg7 : (wi.alloc o).grownBy w7 (Value.slice lo la lc).ownBlock)
    (hown7 : w7.ownsRow w.heap.size 60 1 v7 (k + 1) (xs ++ [.pointer (some ⟨P, 0, none⟩)])) (hBW : B ≤ W) (hWT : ¬ W = T) (hB : B ≤ w.heap.size) : Loop4 B W T (k + 1) tk cur D fv gp w (w7.setCell ⟨W, 8, none⟩ v7) := by
  have hsz := hL.same.below.size
  have hownA : (wi.alloc o).ownsRow w.heap.size 60 1 (.slice lo la lc) k xs := World.ownsRow.alloc (own_newer hown hI.bel) o
  have hlt : ∀ q, (Value.slice lo la lc).ownBlock = some q → w.heap.size ≤ q := fun q hq => (World.ownsRow.lt hownA q hq).1
  have far : ∀ {b : Nat} {cs : Array Value} {t : TypeId}, wi.heap[b]? = some (.cells cs t (0, 0)) → t ≠ 60 → w7.heap[b]? = some (.cells cs t (0, 0)) := fun hb ht => block_far hg7 (block_old hb _) (own_ne hownA (block_old hb _) ht)
  have hW7 := far hI.whl (by decide)
  have hPW : P ≠ W := fun e => by have := hI.lev; rw [e, hI.whl] at this; simp at this
  have hGW : wo.heap.size ≠ W := fun e => by have := hI.slt; rw [e, hI.whl] at this; simp at this
  have hne : v7.ownBlock ≠ some W := fun e => own_ne hown7 hW7 (by decide) e.symm
  refine ⟨⟨v7, xs ++ [.pointer (some ⟨P, 0, none⟩)], ?_, ownsRow_setCell_other hown7 hne v7, ?_, fun _ => ⟨P, wo.heap.size, ?_, by omega, hsz, block_other (far hI.lev (by decide)) (a := ⟨W, 8, none⟩) hPW _, ?_⟩⟩, ?_, ?_, ?_⟩
  · have := block_set (i := 8) hW7 v7
    simp [wheel] at this
    exact this
  · intro x hx
    rcases List.mem_append.1 hx with h | h
    · obtain ⟨q, cs, e, hq⟩ := hptr x h
      have hqi : wi.heap[q]? = some (.cells cs 67 (0, 0)) := (hI.bel.block q (lt_of_block hq)).trans hq
      exact ⟨q, cs, e, block_other (far hqi (by decide)) (a := ⟨W, 8, none⟩) (fun (e : q = W) => by rw [e, hI.whl] at hqi; simp at hqi) _⟩
    · exact ⟨P, _, by simpa using h, block_other (far hI.lev (by decide)) (a := ⟨W, 8, none⟩) hPW _⟩
  · have hxl : xs.length = k := by simpa using hown.1
    rw [Nat.add_sub_cancel, List.getElem?_append_right (by omega), hxl, Nat.sub_self]
    rfl
  · have := far hI.slt (by decide)
    rw [part4_all] at this
    exact block_other this (a := ⟨W, 8, none⟩) hGW _
  · have ht : wi.heap[T]? = some (.cells (timer W fv D (.pointer none) gp) 32 (0, 0)) := (hI.bel.block _ (lt_of_block hL.tim)).trans hL.tim
    exact block_other (far ht (by decide)) (a := ⟨W, 8, none⟩) (fun e => hWT e.symm) _
  · exact ((((hL.same.below.trans (hI.bel.mono (by omega))).alloc (by have := hI.bel.size; omega) o)).grown hg7 (by have := hI.bel.size; simp; omega) (fun q hq => by have := hlt q hq; omega)).setCell (p := ⟨W, 8, none⟩) hBW _
  · intro q h1 h2
    have hqW : q ≠ W := fun e => h1 (by simp [e])
    rw [Below.heap_setCell _ _ _ _ hqW]
    have hqi : q < wi.heap.size := by have := hI.bel.size; omega
    rw [hg7.block q (by simp; omega) (fun e => by have := hlt q e.symm; omega), Below.heap_alloc _ _ _ hqi, hI.bel.block q (by omega), hL.same.same q h1 h2]

set_option maxRecDepth 100000 in
set_option maxHeartbeats 1000000 in
theorem ins4_any (B : Nat) (W T : Nat) (tk cur due : Int) (fv gp : Value) (w : World) (hW : w.heap[W]? = some (.cells (wheel tk 4 2 cur (.slice none 0 0) false) 51 (0, 0)))
    (hT : w.heap[T]? = some (.cells (timer W fv due (.pointer none) gp) 32 (0, 0))) (hc0 : 0 ≤ cur) (hc1 : cur ≤ 4294967295) (hd1 : due ≤ 9223372036854775807) (hBW : B ≤ W) (hBT : B ≤ T) (hB : B ≤ w.heap.size) :
    Calls Yba.prog 9 #[.pointer (some ⟨W, 0, none⟩), .pointer (some ⟨T, 0, none⟩)] w fun e w' => InsPost B W T tk 4 2 cur due fv gp w e w' := by
  have c3 : w.cell? ⟨W, 3, none⟩ = some (.int .i64 4) := cell_at (i := 3) hW rfl
  have c4 : w.cell? ⟨W, 4, none⟩ = some (.int .u64 2) := cell_at (i := 4) hW rfl
  have c7 : w.cell? ⟨W, 7, none⟩ = some (.int .i64 cur) := cell_at (i := 7) hW rfl
  have c8 : w.cell? ⟨W, 8, none⟩ = some (.slice none 0 0) := cell_at (i := 8) hW rfl
  have c10 : w.cell? ⟨W, 10, none⟩ = some (.bool false) := cell_at (i := 10) hW rfl
  have t2 : w.cell? ⟨T, 2, none⟩ = some (.int .i64 due) := cell_at (i := 2) hT rfl
  have f2 := free_at (i := 2) hT
  obtain ⟨D, hD, hD0, hD1⟩ : ∃ D : Int, (if due < cur then cur else due) = D ∧ 0 ≤ D ∧ D ≤ 9223372036854775807 := ⟨_, rfl, by split <;> omega, by split <;> omega⟩
  go_enter Yba.func9, Yba.ntmps9
  go_wp2_with fail
  go_region
  go_wp2_with fail
  have hWT : ¬ W = T := fun e => by subst e; rw [hW] at hT; simp at hT
  have hTW : ¬ T = W := fun e => hWT e.symm
  have hW1 : (w.setCell ⟨T, 2, none⟩ (.int .i64 D)).drew.heap[W]? = some (.cells (wheel tk 4 2 cur (.slice none 0 0) false) 51 (0, 0)) := block_other hW (a := ⟨T, 2, none⟩) hWT _
  have hT1 : (w.setCell ⟨T, 2, none⟩ (.int .i64 D)).drew.heap[T]? = some (.cells (timer W fv D (.pointer none) gp) 32 (0, 0)) := by
    have := block_set (i := 2) hT (.int .i64 D)
    simp [timer] at this
    exact this
  have hS1 : SameBut B [W, T] w (w.setCell ⟨T, 2, none⟩ (.int .i64 D)).drew := ((((SameBut.refl B w).mono (ls := [W, T]) (by simp)).set (p := ⟨T, 2, none⟩) hBT (by simp) _)).drew
  clear c3 c4 c7 c8 c10 t2 f2
  generalize (w.setCell ⟨T, 2, none⟩ (.int .i64 D)).drew = w1 at *
  refine (level4_any W D cur w1 (cell_at (i := 4) hW1 rfl) (cell_at (i := 7) hW1 rfl) (by rw [IntKind.wrap_u64]; omega) (by rw [IntKind.wrap_u64]; omega)).mono ?_
  rintro e w2 ⟨⟨i, rfl, hi⟩, hbel2⟩
  have hL0 : Loop4 B W T 0 tk cur D fv gp w w2 := by
    refine ⟨⟨.slice none 0 0, [], (hbel2.block _ (lt_of_block hW1)).trans hW1, World.ownsRow_nil _ _ _ _, by simp, by omega⟩, (hbel2.block _ (lt_of_block hT1)).trans hT1, ?_⟩
    exact ⟨hS1.below.trans (hbel2.mono (Nat.le_trans hB hS1.below.size)), fun k h1 h2 => (hbel2.block k (Nat.lt_of_lt_of_le h2 hS1.below.size)).trans (hS1.same k h1 h2)⟩
  clear hW1 hT1 hS1 hbel2
  go_wp2_with fail
  go_loopw [] (fun wr => ∃ k : Nat, k ≤ i + 1 ∧ Loop4 B W T k tk cur D fv gp w wr) (fun wr => i + 1 - lvLen W wr)
  case atStart => exact ⟨0, Nat.zero_le _, hL0⟩
  case round =>
    obtain ⟨k, hk, hL⟩ := hrel
    generalize wr = wo at *
    clear hL0
    obtain ⟨v, xs, hW3, hown, hptr, hlast⟩ := hL.whl
    obtain ⟨la, lc, rfl, hrow⟩ := ownsRow_shape hown
    have c3 : wo.cell? ⟨W, 3, none⟩ = some (.int .i64 4) := cell_at (i := 3) hW3 rfl
    have c4 : wo.cell? ⟨W, 4, none⟩ = some (.int .u64 2) := cell_at (i := 4) hW3 rfl
    have c8 : wo.cell? ⟨W, 8, none⟩ = some (.slice la k lc) := cell_at (i := 8) hW3 rfl
    by_cases hlt : k ≤ i
    · have hle : (k : Int) ≤ (i : Int) := by omega
      obtain ⟨i64, hi64, hz0, hz1, hz2⟩ := info_parts info64
      have hGlt : W < wo.heap.size := lt_of_block hW3
      by_cases hk0 : k = 0
      case' pos =>
        go_wp2_with (at_make; go_must (refine wpList_make_full _ rfl _ _ 65 rfl wo.heap.size 64 i64 _ 4 Yba.underlying65 hi64 hz0 hz1 .i64 .i64 _ _ 4 rfl rfl (by simp) (by simp) (by rw [hz2]; omega) (by unfold maxLen; omega) (Nat.le_refl _) ?_; intro w4 hown4 hg4; have hG4 := own_full hown4; rw [made4] at hG4; clear hown4; have hW4 := block_old (block_far hg4 hW3 (by simp)) (.cells #[.int .i64 1, .int .u64 0, .int .i64 0, .slice (some ⟨wo.heap.size, 0, none⟩) 4 4, .int .i64 0] 67); have e8 : (w4.alloc (.cells #[.int .i64 1, .int .u64 0, .int .i64 0, .slice (some ⟨wo.heap.size, 0, none⟩) 4 4, .int .i64 0] 67)).cell? ⟨W, 8, none⟩ = some (.slice la k lc) := cell_at (i := 8) hW4 rfl; have e4 : (w4.alloc (.cells #[.int .i64 1, .int .u64 0, .int .i64 0, .slice (some ⟨wo.heap.size, 0, none⟩) 4 4, .int .i64 0] 67)).cell? ⟨W, 4, none⟩ = some (.int .u64 2) := cell_at (i := 4) hW4 rfl; have t0 : decide (0 < (k : Int)) = false := by simp; omega))
      case' neg =>
        obtain ⟨k', rfl⟩ : ∃ k', k = k' + 1 := ⟨k - 1, by omega⟩
        obtain ⟨P0, G0, hx0, hP0, hG0, hPb, hGb⟩ := hlast (by omega)
        obtain ⟨rg, hla, hrg, hrc⟩ := hrow (by omega)
        subst hla
        go_wp2_with (at_make; go_must (refine wpList_make_full _ rfl _ _ 65 rfl wo.heap.size 64 i64 _ 4 Yba.underlying65 hi64 hz0 hz1 .i64 .i64 _ _ 4 rfl rfl (by simp) (by simp) (by rw [hz2]; omega) (by unfold maxLen; omega) (Nat.le_refl _) ?_; intro w4 hown4 hg4; have hG4 := own_full hown4; rw [made4] at hG4; clear hown4; have hW4 := block_old (block_far hg4 hW3 (by simp)) (.cells #[.int .i64 1, .int .u64 0, .int .i64 0, .slice (some ⟨wo.heap.size, 0, none⟩) 4 4, .int .i64 0] 67); have e8 : (w4.alloc (.cells #[.int .i64 1, .int .u64 0, .int .i64 0, .slice (some ⟨wo.heap.size, 0, none⟩) 4 4, .int .i64 0] 67)).cell? ⟨W, 8, none⟩ = some (.slice (some ⟨rg, 0, none⟩) (k' + 1) lc) := cell_at (i := 8) hW4 rfl; have e3 : (w4.alloc (.cells #[.int .i64 1, .int .u64 0, .int .i64 0, .slice (some ⟨wo.heap.size, 0, none⟩) 4 4, .int .i64 0] 67)).cell? ⟨W, 3, none⟩ = some (.int .i64 4) := cell_at (i := 3) hW4 rfl; have e4 : (w4.alloc (.cells #[.int .i64 1, .int .u64 0, .int .i64 0, .slice (some ⟨wo.heap.size, 0, none⟩) 4 4, .int .i64 0] 67)).cell? ⟨W, 4, none⟩ = some (.int .u64 2) := cell_at (i := 4) hW4 rfl; have t0 : decide (0 < (k' : Int) + 1) = true := decide_eq_true (by omega)))
      case' neg =>
        have hbA : Below wo.heap.size wo (w4.alloc (.cells #[.int .i64 1, .int .u64 0, .int .i64 0, .slice (some ⟨wo.heap.size, 0, none⟩) 4 4, .int .i64 0] 67)) := ((Below.refl _ _).grown hg4 (Nat.le_refl _) (fun k hk => by cases hk)).alloc hg4.size _
        have hPn := block_new w4 (.cells #[.int .i64 1, .int .u64 0, .int .i64 0, .slice (some ⟨wo.heap.size, 0, none⟩) 4 4, .int .i64 0] 67)
        have pn0 := cell_at (i := 0) hPn rfl
        have fn0 := free_at (i := 0) hPn
        have hr0 := hrc k' _ hx0
        have q0 := (hbA.cell (p := ⟨rg, k', none⟩) (World.block_lt_of_cell? wo _ hr0)).trans hr0
        have s0 := (hbA.cell (p := ⟨P0, 0, none⟩) (lt_of_block hPb)).trans (cell_at (i := 0) hPb (v := .int .i64 (4 ^ k' : Nat)) rfl)
        have hS : 4 ^ k' * 4 ≤ 4611686018427387904 := by
          have h1 : 4 ^ k' ≤ 4 ^ 30 := Nat.pow_le_pow_right (by omega) (by omega)
          have h2 : (4 : Nat) ^ 30 = 1152921504606846976 := by decide
          omega
        have hS' : Hid (4 ^ k' * 4 = 4 ^ (k' + 1)) := (Nat.pow_succ 4 k').symm
        generalize 4 ^ k' = S at *
        have hSw : IntKind.i64.wrap ((S : Int) * 4) = (S : Int) * 4 := wrap64_id _ (by omega) (by omega)
        have i0 : (0 : Int) ≤ (k' : Int) := Int.natCast_nonneg _
        have i1 : (k' : Int) < (k' : Int) + 1 := by omega
        have hWP : ¬ W = w4.heap.size := by have := hg4.size; omega
        have hGP : ¬ wo.heap.size = w4.heap.size := by have := lt_of_block hG4; omega
        go_region
        have hW5 : (w4.alloc (.cells #[.int .i64 ((S : Int) * 4), .int .u64 0, .int .i64 0, .slice (some ⟨wo.heap.size, 0, none⟩) 4 4, .int .i64 0] 67)).drew.heap[W]? = some (.cells (wheel tk 4 2 cur (.slice (some ⟨rg, 0, none⟩) (k' + 1) lc) false) 51 (0, 0)) := block_old (block_far hg4 hW3 (by simp)) _
        have hP5 : (w4.alloc (.cells #[.int .i64 ((S : Int) * 4), .int .u64 0, .int .i64 0, .slice (some ⟨wo.heap.size, 0, none⟩) 4 4, .int .i64 0] 67)).drew.heap[w4.heap.size]? = some (.cells #[.int .i64 (4 ^ (k' + 1) : Nat), .int .u64 0, .int .i64 0, .slice (some ⟨wo.heap.size, 0, none⟩) 4 4, .int .i64 0] 67 (0, 0)) := by
          rw [← hS'.out, show ((S * 4 : Nat) : Int) = (S : Int) * 4 by omega]
          exact block_new w4 (.cells #[.int .i64 ((S : Int) * 4), .int .u64 0, .int .i64 0, .slice (some ⟨wo.heap.size, 0, none⟩) 4 4, .int .i64 0] 67)
        have hG5 : (w4.alloc (.cells #[.int .i64 ((S : Int) * 4), .int .u64 0, .int .i64 0, .slice (some ⟨wo.heap.size, 0, none⟩) 4 4, .int .i64 0] 67)).drew.heap[wo.heap.size]? = some (.cells nils4 64 (0, 0)) := block_old hG4 _
        have hb5 : Hid (Below wo.heap.size wo (w4.alloc (.cells #[.int .i64 ((S : Int) * 4), .int .u64 0, .int .i64 0, .slice (some ⟨wo.heap.size, 0, none⟩) 4 4, .int .i64 0] 67)).drew) := (((Below.refl _ _).grown hg4 (Nat.le_refl _) (fun k hk => by cases hk)).alloc hg4.size _).drew
        have hgP : wo.heap.size < w4.heap.size := lt_of_block hG4
        clear hbA hPn pn0 fn0 q0 s0 hSw hS hW4 e8 e3 e4 hG4 hg4 hS' hWP hGP
        generalize (w4.alloc (.cells #[.int .i64 ((S : Int) * 4), .int .u64 0, .int .i64 0, .slice (some ⟨wo.heap.size, 0, none⟩) 4 4, .int .i64 0] 67)).drew = w5 at *
        generalize w4.heap.size = P at *
        have e8 : w5.cell? ⟨W, 8, none⟩ = some (.slice (some ⟨rg, 0, none⟩) (k' + 1) lc) := cell_at (i := 8) hW5 rfl
        have e3 : w5.cell? ⟨W, 3, none⟩ = some (.int .i64 4) := cell_at (i := 3) hW5 rfl
        have e4 : w5.cell? ⟨W, 4, none⟩ = some (.int .u64 2) := cell_at (i := 4) hW5 rfl
        go_wp2_with fail
        clear hx0 hP0 hG0 hPb hGb hr0 hrc t0 i0 i1 hrg
        generalize hkk : k' + 1 = k at *
        generalize hlaa : (some ⟨rg, 0, none⟩ : Option Addr) = la at *
        clear hkk hlaa
      case' pos =>
        have hW5 := hW4
        have hP5 : (w4.alloc (.cells #[.int .i64 1, .int .u64 0, .int .i64 0, .slice (some ⟨wo.heap.size, 0, none⟩) 4 4, .int .i64 0] 67)).heap[w4.heap.size]? = some (.cells #[.int .i64 (4 ^ k : Nat), .int .u64 0, .int .i64 0, .slice (some ⟨wo.heap.size, 0, none⟩) 4 4, .int .i64 0] 67 (0, 0)) := by
          rw [hk0]
          exact block_new w4 (.cells #[.int .i64 1, .int .u64 0, .int .i64 0, .slice (some ⟨wo.heap.size, 0, none⟩) 4 4, .int .i64 0] 67)
        have hG5 := block_old hG4 (.cells #[.int .i64 1, .int .u64 0, .int .i64 0, .slice (some ⟨wo.heap.size, 0, none⟩) 4 4, .int .i64 0] 67)
        have hb5 : Hid (Below wo.heap.size wo (w4.alloc (.cells #[.int .i64 1, .int .u64 0, .int .i64 0, .slice (some ⟨wo.heap.size, 0, none⟩) 4 4, .int .i64 0] 67))) := ((Below.refl _ _).grown hg4 (Nat.le_refl _) (fun k hk => by cases hk)).alloc hg4.size _
        have hgP : wo.heap.size < w4.heap.size := lt_of_block hG4
        have e3 : (w4.alloc (.cells #[.int .i64 1, .int .u64 0, .int .i64 0, .slice (some ⟨wo.heap.size, 0, none⟩) 4 4, .int .i64 0] 67)).cell? ⟨W, 3, none⟩ = some (.int .i64 4) := cell_at (i := 3) hW4 rfl
        clear hW4 hG4 hg4
        generalize w4.alloc (.cells #[.int .i64 1, .int .u64 0, .int .i64 0, .slice (some ⟨wo.heap.size, 0, none⟩) 4 4, .int .i64 0] 67) = w5 at *
        generalize w4.heap.size = P at *
        clear hk0 t0
      all_goals
        have p1 : w5.cell? ⟨P, 1, none⟩ = some (.int .u64 0) := cell_at (i := 1) hP5 rfl
        have p2 : w5.cell? ⟨P, 2, none⟩ = some (.int .i64 0) := cell_at (i := 2) hP5 rfl
        have f1 := free_at (i := 1) hP5
        have f2 := free_at (i := 2) hP5
        have hWP : ¬ W = P := by omega
        have hPW : ¬ P = W := by omega
        have hkw : IntKind.u64.wrap (k : Int) = (k : Int) := by rw [IntKind.wrap_u64]; omega
        have hkw2 : IntKind.u64.wrap ((k : Int) * 2) = (k : Int) * 2 := by rw [IntKind.wrap_u64]; omega
        go_region
        have hW6 : ((w5.setCell ⟨P, 1, none⟩ (.int .u64 ((k : Int) * 2))).setCell ⟨P, 2, none⟩ (.int .i64 3)).drew.heap[W]? = some (.cells (wheel tk 4 2 cur (.slice la k lc) false) 51 (0, 0)) := block_other (block_other hW5 (a := ⟨P, 1, none⟩) hWP _) (a := ⟨P, 2, none⟩) hWP _
        have hP6 : ((w5.setCell ⟨P, 1, none⟩ (.int .u64 ((k : Int) * 2))).setCell ⟨P, 2, none⟩ (.int .i64 3)).drew.heap[P]? = some (.cells (level4 k wo.heap.size) 67 (0, 0)) := by
          have h2 := block_set (i := 2) (block_set (i := 1) hP5 (.int .u64 ((k : Int) * 2))) (.int .i64 3)
          have h3 : (#[Value.int .i64 (4 ^ k : Nat), .int .u64 0, .int .i64 0, .slice (some ⟨wo.heap.size, 0, none⟩) 4 4, .int .i64 0].setIfInBounds 1 (.int .u64 ((k : Int) * 2))).setIfInBounds 2 (.int .i64 3) = level4 k wo.heap.size := by
            unfold level4
            rw [show (((2 * k : Nat)) : Int) = (k : Int) * 2 by omega]
            rfl
          rw [h3] at h2
          exact h2
        have hG6 : ((w5.setCell ⟨P, 1, none⟩ (.int .u64 ((k : Int) * 2))).setCell ⟨P, 2, none⟩ (.int .i64 3)).drew.heap[wo.heap.size]? = some (.cells nils4 64 (0, 0)) := block_other (block_other hG5 (a := ⟨P, 1, none⟩) (by show wo.heap.size ≠ P; omega) _) (a := ⟨P, 2, none⟩) (by show wo.heap.size ≠ P; omega) _
        have hb6 : Hid (Below wo.heap.size wo ((w5.setCell ⟨P, 1, none⟩ (.int .u64 ((k : Int) * 2))).setCell ⟨P, 2, none⟩ (.int .i64 3)).drew) := ((hb5.out.setCell (p := ⟨P, 1, none⟩) (by show wo.heap.size ≤ P; omega) _).setCell (p := ⟨P, 2, none⟩) (by show wo.heap.size ≤ P; omega) _).drew
        clear hW5 hP5 hG5 hb5 e3 e4 e8 p1 p2 f1 f2 hkw hkw2
        generalize ((w5.setCell ⟨P, 1, none⟩ (.int .u64 ((k : Int) * 2))).setCell ⟨P, 2, none⟩ (.int .i64 3)).drew = w6 at *
        generalize hGe : wo.heap.size = G at *
        have p3 : w6.cell? ⟨P, 3, none⟩ = some (.slice (some ⟨G, 0, none⟩) 4 4) := cell_at (i := 3) hP6 rfl
        have hI0 : In4 W P G k 0 tk cur (.slice la k lc) wo w6 := ⟨hW6, hP6, hG6, hb6.out⟩
        clear hW6 hP6 hG6 hb6
        go_wp2_with fail
        go_loopw [102] (fun jv wi => ∃ j : Nat, j ≤ 4 ∧ jv = .int .i64 j ∧ In4 W P G k j tk cur (.slice la k lc) wo wi) (fun jv _ => 4 - (intOf jv).toNat)
        case atStart => exact ⟨0, by omega, rfl, hI0⟩
      all_goals
        obtain ⟨j, hj, rfl, hI⟩ := hrel
        clear hI0 p3
        by_cases hjl : j < 4
        · have p3 : wr.cell? ⟨P, 3, none⟩ = some (.slice (some ⟨G, 0, none⟩) 4 4) := cell_at (i := 3) hI.lev rfl
          have g0 := cell_at (i := j * 4) hI.slt (part4_at P j hjl)
          have fg := free_at (i := j * 4) hI.slt
          have i0 : (0 : Int) ≤ (j : Int) := Int.natCast_nonneg _
          have i1 : (j : Int) < 4 := by omega
          go_wp2_with fail
          exact ⟨⟨j + 1, by omega, by simp, hI.step (by omega) (by omega)⟩, by simp [intOf]; omega⟩
        · obtain rfl : j = 4 := by omega
          have e8 : wr.cell? ⟨W, 8, none⟩ = some (.slice la k lc) := cell_at (i := 8) hI.whl rfl
          obtain ⟨i60, hi60, hy0, hy1, hy2⟩ := info_parts info60
          subst hGe
          have hsz := hL.same.below.size
          have hownA : (wr.alloc (.cells #[.pointer (some ⟨P, 0, none⟩)] 60)).ownsRow w.heap.size 60 1 (.slice la k lc) k xs := World.ownsRow.alloc (own_newer hown hI.bel) _
          go_wp2_with (at_builtin; go_must (refine wpList_append_own _ rfl _ _ 49 rfl w.heap.size 60 i60 (.pointer none) 1 8 Yba.underlying49 hi60 hy0 hy1 hy2 rfl (by decide) (.slice la k lc) k xs rfl hownA ⟨wr.heap.size, 0, none⟩ 1 1 [.pointer (some ⟨P, 0, none⟩)] rfl rfl (cell_one_new _ _ _) (by intro u hu; simp at hu; subst hu; rfl) (by unfold maxLen; omega) (by omega) (by have := hI.bel.size; simp; omega) ?_; intro v7 w7 hown7 hg7 _; have hW7 := block_far hg7 (block_old hI.whl _) (own_ne hownA (block_old hI.whl _) (by decide)); have d8 : w7.cell? ⟨W, 8, none⟩ = some (.slice la k lc) := cell_at (i := 8) hW7 rfl; have f8 := free_at (i := 8) hW7; obtain ⟨a7, c7, hv7, _⟩ := ownsRow_shape hown7; subst hv7))
          have hN := hL.next hI hown hptr hgP hg7 hown7 hBW hWT hB
          refine ⟨⟨k + 1, by omega, hN⟩, ?_⟩
          rw [hN.len, hL.len]
          omega
    · obtain rfl : k = i + 1 := by omega
      obtain ⟨P, G, hx, hPb, hGb, hP, hG⟩ := hlast (by omega)
      obtain ⟨rg, rfl, hrg, hrc⟩ := hrow (by omega)
      rw [Nat.add_sub_cancel] at hx hP
      have q0 := hrc i _ hx
      have i0 : (0 : Int) ≤ (i : Int) := Int.natCast_nonneg _
      have i1 : (i : Int) < (i : Int) + 1 := by omega
      have t2 : wo.cell? ⟨T, 2, none⟩ = some (.int .i64 D) := cell_at (i := 2) hL.tim rfl
      have hTi := hL.tim
      have hWP : ¬ W = P := fun e => by rw [← e, hW3] at hP; simp at hP
      have hWG : ¬ W = G := fun e => by rw [← e, hW3] at hG; simp at hG
      go_wp2_with fail
      have hrb : ∃ cur, wo.heap[rg]? = some (.cells cur 60 (0, 0)) := by
        rcases hown.2 with ⟨h, _⟩ | ⟨g', cap', cur', h, _, hg', _⟩
        · simp at h
        · simp only [Value.slice.injEq, Option.some.injEq, Addr.mk.injEq, and_true, true_and] at h
          obtain ⟨rfl, rfl⟩ := h
          exact ⟨_, hg'⟩
      obtain ⟨rcur, hrb⟩ := hrb
      have hrG : ¬ rg = G := fun e => by rw [← e, hrb] at hG; simp at hG
      have hrT : ¬ rg = T := fun e => by rw [← e, hrb] at hTi; simp at hTi
      have hrP : ¬ rg = P := fun e => by rw [← e, hrb] at hP; simp at hP
      go_region_held3 (fun w' => w'.cell? ⟨W, 8, none⟩ = some (.slice (some ⟨rg, 0, none⟩) (i + 1) lc) ∧ w'.cell? ⟨rg, i, none⟩ = some (.pointer (some ⟨P, 0, none⟩)) ∧ w'.cell? ⟨T, 2, none⟩ = some (.int .i64 D) ∧ w'.cell? ⟨W, 3, none⟩ = some (.int .i64 4))
        (first | go_keep)
        (first | (go_at_call 13; refine (slot4_any P G _ _ _ D wo.drew hP (by omega) (by omega) hD0 hD1).mono ?_; rintro e w8 ⟨⟨j, rfl, hj⟩, hb8⟩; have hW8 := (hb8.block W (lt_of_block hW3)).trans hW3; have hP8 := (hb8.block P (lt_of_block hP)).trans hP; have hG8 := (hb8.block G (lt_of_block hG)).trans hG; have hT8 := (hb8.block T (lt_of_block hTi)).trans hTi; have hr8 := (hb8.block rg (lt_of_block hrb)).trans hrb; obtain ⟨hs0, hs1, hs2⟩ := slots4_at P j hj; have k8 : w8.cell? ⟨W, 8, none⟩ = some (.slice (some ⟨rg, 0, none⟩) (i + 1) lc) := cell_at (i := 8) hW8 rfl; have k3 : w8.cell? ⟨W, 3, none⟩ = some (.int .i64 4) := cell_at (i := 3) hW8 rfl; have k2 : w8.cell? ⟨T, 2, none⟩ = some (.int .i64 D) := cell_at (i := 2) hT8 rfl; have kr : w8.cell? ⟨rg, i, none⟩ = some (.pointer (some ⟨P, 0, none⟩)) := (World.cell?_of_block (w := wo) (hr8.trans hrb.symm)).trans q0) | (go_at_call 14; refine (push_any B G T P (j * 4) W D _ _ _ fv _ gp (slots4 P) w8 hG8 hs0 hs1 hs2 hT8 hP8 (by omega) hBT (by omega)).mono ?_; rintro e w9 ⟨rfl, hG9, hT9, hP9, hS9⟩; have hW9 := hS9.cells hW8 (by simp [hWG, hWT, hWP]); have hr9 := hS9.cells hr8 (by simp [hrG, hrT, hrP]); have c5 : w9.cell? ⟨W, 5, none⟩ = some (.pointer none) := cell_at (i := 5) hW9 rfl; have l8 : w9.cell? ⟨W, 8, none⟩ = some (.slice (some ⟨rg, 0, none⟩) (i + 1) lc) := cell_at (i := 8) hW9 rfl; have l3 : w9.cell? ⟨W, 3, none⟩ = some (.int .i64 4) := cell_at (i := 3) hW9 rfl; have l2 : w9.cell? ⟨T, 2, none⟩ = some (.int .i64 D) := cell_at (i := 2) hT9 rfl; have lr : w9.cell? ⟨rg, i, none⟩ = some (.pointer (some ⟨P, 0, none⟩)) := (World.cell?_of_block (w := wo) (hr9.trans hrb.symm)).trans q0))
      have hxl : xs.length = i + 1 := by simpa using hown.1
      obtain ⟨z0, z1, z2⟩ := slots4_set P T j hj
      have hfin : InsPost B W T tk 4 2 cur due fv gp w (.returned (.tuple #[])) w9 := by
        refine ⟨rfl, ?_⟩
        have hptr9 : ∀ x ∈ xs, ∃ (q : Nat) (cs : Array Value), x = .pointer (some ⟨q, 0, none⟩) ∧ w9.heap[q]? = some (.cells cs 67 (0, 0)) := fun x hx => by
          obtain ⟨q, cs, e, hq⟩ := hptr x hx
          by_cases hqP : q = P
          · exact ⟨q, _, e, by rw [hqP]; exact hP9⟩
          · have hq8 := (hb8.block q (lt_of_block hq)).trans hq
            have hqG : ¬ q = G := fun e => by rw [e, hG] at hq; simp at hq
            have hqT : ¬ q = T := fun e => by rw [e, hTi] at hq; simp at hq
            exact ⟨q, cs, e, hS9.cells hq8 (by simp [hqP, hqG, hqT])⟩
        rw [hD]
        refine ⟨⟨P, G, j * 4, i + 1, i, rg, lc, _, _, _, _, _, xs, hW9, hT9, hP9, hG9, z0, z1, z2, by omega, by omega, hxl, hx, hptr9, fun jj u hu => (World.cell?_of_block (w := wo) (hr9.trans hrb.symm)).trans (hrc jj u hu)⟩, ?_, ?_⟩
        · have h1 : Below B wo w8 := by
            have h2 : Below B wo.drew w8 := hb8.mono (by have := hL.same.below.size; show B ≤ wo.heap.size; omega)
            exact ((Below.refl B wo).drew).trans h2
          exact (hL.same.below.trans h1).trans hS9.below
        · intro q h1 h2
          have hsz := hL.same.below.size
          have hq8 : q < w8.heap.size := Nat.lt_of_lt_of_le (by show q < wo.heap.size; omega) hb8.size
          have hqT : q ≠ T := fun e => h1 (by simp [e])
          rw [hS9.same q (by simp; omega) hq8, hb8.block q (by show q < wo.heap.size; omega)]
          exact hL.same.same q h1 h2
      go_wp2
      go_end0
      exact hfin
end Go.Proofs.Ybulkrnm
