import Derived.Test.YbulkrkuCSt
import Derived.Deep.RegionHeld3
import Derived.Deep.DrawnRows
import Derived.BigQuiet
import Derived.Deep.QuietTactic
import Derived.BigRegion
namespace Go.Proofs.Ybulkrku
open Go.RowKit Go.WideMaps
attribute [local go_sem ↓] Go.wp_at_zero Go.wp_at_succ

theorem grownBy_setCell (w : World) (a : Addr) (u : Value) : w.grownBy (w.setCell a u) (some a.block) :=
  ⟨rfl, rfl, rfl, by simp [World.setCell], fun k _ hk => Below.heap_setCell _ _ _ _ (fun e => hk (by rw [e]))⟩

theorem row_ne_map {P : Program} {k e : TypeId} {w : World} {b N : Nat} {f : ByteArray → Option Value} {sz base : Nat} {t : TypeId} {v : Value} {n : Nat} {xs : List Value} (h : MapIs P k e w b N f sz) (hr : w.ownsRow base t 1 v n xs) : v.ownBlock = none ∨ v.ownBlock ≠ some b := by
  rcases hr.2 with ⟨rfl, _⟩ | ⟨g, cap, cur, rfl, _, hg, _⟩
  · exact .inl rfl
  · exact .inr (by simpa [Value.ownBlock] using h.ne_cells hg)

section
variable {w0 w w' : World} {B RB g n : Nat} {S : Nat → ByteArray} {fr pt : ByteArray} {d : Int} {lo rp : Bool} {T o c er rc N : Nat} {fo fc : ByteArray → Option Value} {r : ByteArray → Bool} {so sc sr : Nat} {dp ms du : Int} {pa : Bool}
  {N' : Nat} {fo' fc' : ByteArray → Option Value} {r' : ByteArray → Bool} {so' sc' sr' : Nat} {dp' ms' du' : Int} {pa' : Bool}

theorem Cst.step (h : Cst w0 w B RB g n S fr pt d lo rp T o c er rc N fo fc r so sc sr dp ms du pa) (htal : Tal w' T o c er rc N' fo' fc' (rOf r') so' sc' sr' dp' ms' du' pa') {x : Nat} (hg : w.grownBy w' (some x)) (hx : x = T ∨ x = o ∨ x = c ∨ x = rc) :
    Cst w0 w' B RB g n S fr pt d lo rp T o c er rc N' fo' fc' r' so' sc' sr' dp' ms' du' pa' := by
  refine ⟨htal, ?_, ?_, h.bel.grown hg hx⟩
  · refine block_far hg h.box ?_
    rcases hx with rfl | rfl | rfl | rfl
    · intro e
      have e' : RB = x := by simpa using e
      have := h.box
      rw [e', h.tal.blk] at this
      simp at this
    · simpa using h.tal.owed.ne_cells h.box
    · simpa using h.tal.came.ne_cells h.box
    · simpa using h.tal.rchd.ne_cells h.box
  · refine h.row.kept hg ?_
    rcases hx with rfl | rfl | rfl | rfl
    · exact .inr (own_ne h.row h.tal.blk (by decide)).symm
    · exact row_ne_map h.tal.owed h.row
    · exact row_ne_map h.tal.came h.row
    · exact row_ne_map h.tal.rchd h.row
theorem Cst.drew (h : Cst w0 w B RB g n S fr pt d lo rp T o c er rc N fo fc r so sc sr dp ms du pa) : Cst w0 w.drew B RB g n S fr pt d lo rp T o c er rc N fo fc r so sc sr dp ms du pa :=
  ⟨h.tal.drew, h.box, h.row.drew, ⟨h.bel.os, h.bel.tape, h.bel.output, h.bel.size, h.bel.block⟩⟩
theorem Cst.newer (h : Cst w0 w B RB g n S fr pt d lo rp T o c er rc N fo fc r so sc sr dp ms du pa) (hb : Below w.heap.size w w') : Cst w0 w' B RB g n S fr pt d lo rp T o c er rc N fo fc r so sc sr dp ms du pa := by
  refine ⟨h.tal.below hb (lt_of_block h.tal.blk) h.tal.owed.lt h.tal.came.lt h.tal.erly.lt h.tal.rchd.lt, (hb.block RB (lt_of_block h.box)).trans h.box, ?_, h.bel.trans (Frm.of_new hb)⟩
  exact h.row.kept (row := some w.heap.size) ⟨hb.os, hb.tape, hb.output, hb.size, fun k hk _ => hb.block k hk⟩ (.inr (fun e => by have := (h.row.lt _ e).2; omega))
theorem Cst.set (h : Cst w0 w B RB g n S fr pt d lo rp T o c er rc N fo fc r so sc sr dp ms du pa) (i : Nat) (u : Value)
    (hcs : (#[.map (some o), .map (some c), .map (some er), .int .i64 dp, .int .i64 ms, .int .i64 du, .map (some rc), .int .i64 0, .bool pa] : Array Value).setIfInBounds i u = #[.map (some o), .map (some c), .map (some er), .int .i64 dp', .int .i64 ms', .int .i64 du', .map (some rc), .int .i64 0, .bool pa']) :
    Cst w0 (w.setCell ⟨T, i, none⟩ u) B RB g n S fr pt d lo rp T o c er rc N fo fc r so sc sr dp' ms' du' pa' :=
  h.step (h.tal.set i u hcs) (grownBy_setCell w ⟨T, i, none⟩ u) (.inl rfl)
end

/-- the children's names, written into what is owed -/
def kids (pt : ByteArray) (S : Nat → ByteArray) (f : ByteArray → Option Value) : Nat → ByteArray → Option Value
  | 0 => f
  | k + 1 => upd (kids pt S f k) (childOf pt k) (.string (S k))
def kidSz (pt : ByteArray) (S : Nat → ByteArray) (f : ByteArray → Option Value) (s : Nat) : Nat → Nat
  | 0 => s
  | k + 1 => if (kids pt S f k (childOf pt k)).isSome then kidSz pt S f s k else kidSz pt S f s k + 1

end Go.Proofs.Ybulkrku
