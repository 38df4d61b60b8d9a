import Derived.Test.YbulkrkuAid
import Derived.Test.YbulkrkuBMod
import Derived.Deep.RegionHeld3
import Derived.Deep.RegionLaw
import Derived.Deep.DrawnRows
namespace Go.Proofs.Ybulkrku
open Go.RowKit
attribute [local go_sem ↓] Go.wp_at_zero Go.wp_at_succ

theorem info3 : (Yba.prog.info? 3).map (fun i => (i.zero, i.size, i.bytes)) = some (some (.int .i64 0), 1, 8) := by kernel_rfl
theorem info34 : (Yba.prog.info? 34).map (fun i => (i.zero, i.size, i.bytes)) = some (some (.agg #[.int .i64 0, .float .f64 0, .bool false, .bool false]), 4, 24) := by kernel_rfl

/-- the place: its struct's block, and the two rows that it has filled -/
structure Pl (B : Nat) (aa : Option Addr) (al ac : Nat) (w : World) (lv sv : Value) (n : Nat) (ls ss : List Value) : Prop where
  blk : w.heap[B]? = some (.cells #[.slice aa al ac, lv, sv] 27 (0, 0))
  lev : w.ownsRow (B + 1) 3 1 lv n ls
  stp : w.ownsRow (B + 1) 34 4 sv n ss



/-- a row of another element type, behind blocks and an append -/
theorem own_keep {w w1 : World} {base : Nat} {e e' : TypeId} {size size' n n' : Nat} {v v' : Value} {xs xs' : List Value} (h : w.ownsRow base e size v n xs) (h' : w.ownsRow base e' size' v' n' xs') (ht : e ≠ e') (hg : w.grownBy w1 v'.ownBlock) : w1.ownsRow base e size v n xs :=
  h.kept hg (own_own h h' ht)

/-- behind the first append -/
theorem Pl.first {B : Nat} {aa : Option Addr} {al ac : Nat} {w w1 : World} {lv sv : Value} {n : Nat} {ls ss : List Value} {cs : Array Value} {bs : Obj}
    (h : Pl B aa al ac w lv sv n ls ss) (hg : ((w.alloc (.cells cs 34 (0, 0))).alloc bs).grownBy w1 lv.ownBlock) :
    w1.heap[B]? = some (.cells #[.slice aa al ac, lv, sv] 27 (0, 0)) ∧ w1.heap[w.heap.size]? = some (.cells cs 34 (0, 0)) ∧ w1.ownsRow (B + 1) 34 4 sv n ss ∧ Below B w w1 ∧ w.heap.size + 2 ≤ w1.heap.size := by
  have b0 := block_old (block_old h.blk (.cells cs 34 (0, 0))) bs
  have l0 := (h.lev.alloc (.cells cs 34 (0, 0))).alloc bs
  have bb := block_old (block_new w (.cells cs 34 (0, 0))) bs
  have hlt := lt_of_block h.blk
  refine ⟨block_far hg b0 (own_ne l0 b0 (by decide)), block_far hg bb (own_ne l0 bb (by decide)), own_keep ((h.stp.alloc _).alloc _) l0 (by decide) hg, ?_, ?_⟩
  · exact (((Below.refl B w).alloc (by omega) _).alloc (by simp; omega) _).grown hg (by simp; omega) (fun k hk => by have := (l0.lt k hk).1; omega)
  · have := hg.size; simp at this; omega

/-- behind the store of the first -/
theorem Pl.stored {B : Nat} {w w1 : World} {a lv sv v : Value} {n m N : Nat} {ls ss : List Value} {cs : Array Value} (hb : w1.heap[B]? = some (.cells #[a, lv, sv] 27 (0, 0))) (hx : w1.heap[N]? = some (.cells cs 34 (0, 0))) (hs : w1.ownsRow (B + 1) 34 4 sv n ss) (hl : w1.ownsRow (B + 1) 3 1 v m ls) (hbel : Below B w w1) :
    (w1.setCell ⟨B, 1, none⟩ v).heap[B]? = some (.cells #[a, v, sv] 27 (0, 0)) ∧ (w1.setCell ⟨B, 1, none⟩ v).heap[N]? = some (.cells cs 34 (0, 0)) ∧ (w1.setCell ⟨B, 1, none⟩ v).ownsRow (B + 1) 34 4 sv n ss ∧ (w1.setCell ⟨B, 1, none⟩ v).ownsRow (B + 1) 3 1 v m ls ∧ Below B w (w1.setCell ⟨B, 1, none⟩ v) := by
  have hne : N ≠ B := fun e => by subst e; rw [hb] at hx; simp at hx
  exact ⟨by simpa using block_set (i := 1) hb v, block_other hx hne v, ownsRow_setCell_below hs (by simp) v, ownsRow_setCell_below hl (by simp) v, hbel.setCell (by simp) v⟩

/-- behind the second append -/
theorem Pl.second {B : Nat} {w W w3 : World} {a lv sv : Value} {n m : Nat} {ls ss : List Value} {o : Obj} (hb : W.heap[B]? = some (.cells #[a, lv, sv] 27 (0, 0))) (hs : W.ownsRow (B + 1) 34 4 sv n ss) (hl : W.ownsRow (B + 1) 3 1 lv m ls) (hbel : Below B w W)
    (hg : (W.alloc o).drew.grownBy w3 sv.ownBlock) : w3.heap[B]? = some (.cells #[a, lv, sv] 27 (0, 0)) ∧ w3.ownsRow (B + 1) 3 1 lv m ls ∧ Below B w w3 := by
  have b0 : (W.alloc o).drew.heap[B]? = some (.cells #[a, lv, sv] 27 (0, 0)) := block_old hb o
  have s0 := (hs.alloc o).drew
  have hlt := lt_of_block hb
  refine ⟨block_far hg b0 (own_ne s0 b0 (by decide)), own_keep ((hl.alloc o).drew) s0 (by decide) hg, ?_⟩
  exact ((hbel.alloc (by omega) o).drew).grown hg (by show B ≤ (W.alloc o).heap.size; simp; omega) (fun k hk => by have := (s0.lt k hk).1; omega)

/-- behind the second store -/
theorem Pl.done {B : Nat} {aa : Option Addr} {al ac : Nat} {w w3 : World} {lv sv v : Value} {m : Nat} {ls ss : List Value} (hb : w3.heap[B]? = some (.cells #[.slice aa al ac, lv, sv] 27 (0, 0))) (hs : w3.ownsRow (B + 1) 34 4 v m ss) (hl : w3.ownsRow (B + 1) 3 1 lv m ls) (hbel : Below B w w3) :
    Pl B aa al ac (w3.setCell ⟨B, 2, none⟩ v) lv v m ls ss ∧ Below B w (w3.setCell ⟨B, 2, none⟩ v) :=
  ⟨⟨by simpa using block_set (i := 2) hb v, ownsRow_setCell_below hl (by simp) v, ownsRow_setCell_below hs (by simp) v⟩, hbel.setCell (by simp) v⟩

set_option maxHeartbeats 400000 in
theorem on_any (B : Nat) (aa : Option Addr) (al ac : Nat) (w : World) (lv sv : Value) (n : Nat) (ls ss : List Value) (ga : Nat → Bool) (d : Int) (f : Nat) (u m : Bool)
    (hI : Pl B aa al ac w lv sv n ls ss) (hA : AnsIs w B aa al ga) (hn : n < 1024) (_hal : al ≤ 1024) :
    Calls Yba.prog 32 #[.pointer (some ⟨B, 0, none⟩), .int .i64 n, .agg #[.int .i64 d, .float .f64 f, .bool u, .bool m]] w fun e w' => e = .returned (.bool (ansAt ga al n)) ∧
      ∃ lv' sv', Pl B aa al ac w' lv' sv' (n + 1) (ls ++ [.int .i64 n]) (ss ++ [.int .i64 d, .float .f64 f, .bool u, .bool m]) ∧ Below B w w' := by
  obtain ⟨i3, hi3, hz30, hz31, hz32⟩ := info_parts info3
  obtain ⟨i34, hi34, hz340, hz341, hz342⟩ := info_parts info34
  have c1 : w.cell? ⟨B, 1, none⟩ = some lv := cell_at hI.blk rfl
  have hB : B < w.heap.size := lt_of_block hI.blk
  have hne : some w.heap.size ≠ sv.ownBlock := fun e => by have := (hI.stp.lt _ e.symm).2; omega
  go_enter Yba.func32, Yba.ntmps32
  go_wp2_with (at_builtin; go_must (refine wpList_append_lies _ rfl _ _ _ rfl (B + 1) 3 i3 _ 1 8 Yba.underlying25 hi3 hz30 hz31 hz32 rfl (by omega) lv n ls rfl ((hI.lev.alloc _).alloc _) ⟨w.heap.size + 1, 0, none⟩ 1 1 [.int .i64 n] rfl rfl (World.news_of_block (cs := #[.int .i64 n]) (t := 3) (fr := (0, 0)) (block_at (by simp) _)) (ints_oneCell .i64 [(n : Int)]) (by omega) (by unfold maxLen; omega) (by omega) (by simp; omega) (w.heap.size + 2) (by simp) ?_; intro g cap w1 hown hgrow _ _; obtain ⟨bb, bx, bs, bel, bsz⟩ := hI.first hgrow; have e1 := cell_at (i := 1) bb rfl; have f1 := free_at (i := 1) bb))
  obtain ⟨db, dx, ds, dl, dbel⟩ := Pl.stored bb bx bs hown bel
  have dsz : w.heap.size + 2 ≤ (w1.setCell ⟨B, 1, none⟩ (.slice (some ⟨g, 0, none⟩) (n + 1) cap)).heap.size := by simpa [World.setCell] using bsz
  clear hgrow hown bb bx bs bel bsz e1 f1 c1
  generalize w1.setCell ⟨B, 1, none⟩ (.slice (some ⟨g, 0, none⟩) (n + 1) cap) = W at db dx ds dl dbel dsz ⊢
  have c2 := cell_at (i := 2) db rfl
  have c2a := fun o => cell_at (i := 2) (block_old db o) rfl
  have hW : B < W.heap.size := lt_of_block db
  have x0 := cell_at (i := 0) dx rfl
  have x1 := cell_at (i := 1) dx rfl
  have x2 := cell_at (i := 2) dx rfl
  have x3 := cell_at (i := 3) dx rfl
  go_region_law
    ((refine step_append_lies _ (by rfl) _ _ _ (by rfl) (B + 1) 34 i34 _ 4 24 Yba.underlying22 hi34 hz340 hz341 hz342 rfl (by omega) sv n ss (by rfl) ((ds.alloc _).drew)
        ⟨W.heap.size, 0, none⟩ 1 1 [.int .i64 d, .float .f64 f, .bool u, .bool m] (by rfl) (by rfl) (World.news_of_block (cs := #[.int .i64 d, .float .f64 f, .bool u, .bool m]) (t := 34) (fr := (0, 0)) (heap_alloc_new W _)) (by simp [Value.oneCell'])
        (by omega) (by unfold maxLen; omega) (by omega) (by simp; omega) (W.heap.size + 1) (by simp) ?_; intro g2 cap2 w3 hown3 hgrow3 _ _; obtain ⟨eb, el, ebel⟩ := Pl.second db ds dl dbel hgrow3; have f2 := free_at (i := 2) eb; have c2' := cell_at (i := 2) eb rfl; have ex := block_far hgrow3 (show (W.alloc _).drew.heap[w.heap.size]? = _ from block_old dx _) hne; have y0 := cell_at (i := 0) ex rfl; have y1 := cell_at (i := 1) ex rfl; have y2 := cell_at (i := 2) ex rfl; have y3 := cell_at (i := 3) ex rfl))
  all_goals
    obtain ⟨hP, hQ⟩ := Pl.done eb hown3 el ebel
    have hA' := hA.below hQ
    clear hA hI hB hne db dx ds dl dbel dsz c2 c2a hW x0 x1 x2 x3 hgrow3 hown3 eb el ebel f2 c2' ex y0 y1 y2 y3
    generalize w3.setCell ⟨B, 2, none⟩ (.slice (some ⟨g2, 0, none⟩) (n + 1) cap2) = Z at hP hQ hA' ⊢
    have z0 := cell_at (i := 0) hP.blk rfl
    by_cases hna : n < al
    · rcases hA' with h0 | ⟨b, off, _, rfl, hc⟩
      · omega
      · have hck := hc n hna
        go_wp2
        go_ret
        exact ⟨by simp [ansAt, hna], _, _, hP, hQ⟩
    · go_wp2
      go_ret
      exact ⟨by simp [ansAt, hna], _, _, hP, hQ⟩

end Go.Proofs.Ybulkrku
