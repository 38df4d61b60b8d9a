import Derived.Test.YbulkrkuCFr
import Derived.Deep.DeepCutAuto
namespace Go.Proofs.Ybulkrku
open Go.RowKit Go.WideMaps

/-- all blocks that are there stay, in a world that is newer -/
theorem stays {w w' : World} {b : Nat} {x : Obj} (h : w.heap[b]? = some x) (hb : Below w.heap.size w w') : w'.heap[b]? = some x := (hb.block b (lt_of_block h)).trans h

/-- a row of names, behind a count -/
theorem row_frm {w w' : World} {T o c er rc N : Nat} {fo fc fr : ByteArray → Option Value} {so sc sr : Nat} {dp ms du : Int} {pa : Bool} {base : Nat} {v : Value} {n : Nat} {xs : List Value} (hT : Tal w T o c er rc N fo fc fr so sc sr dp ms du pa) (hr : w.ownsRow base 47 1 v n xs) (hF : Frm w w' T o c rc) : w'.ownsRow base 47 1 v n xs := by
  obtain ⟨h1, h2⟩ := hr
  rcases h2 with h2 | ⟨g, cap, cur, rfl, hb, hg, rest⟩
  · exact ⟨h1, .inl h2⟩
  · refine ⟨h1, .inr ⟨g, cap, cur, rfl, hb, ?_, rest⟩⟩
    have e : g ≠ T := fun e => by
      have := hT.blk
      rw [← e, hg] at this
      simp at this
    rw [hF.block g (lt_of_block hg) e (hT.owed.ne_cells hg) (hT.came.ne_cells hg) (hT.rchd.ne_cells hg)]
    exact hg

end Go.Proofs.Ybulkrku
