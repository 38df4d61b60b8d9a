import Derived.WalkKit
import Derived.WalkSpells
import Derived.WalkLawsBesides
import Derived.Deep.AppendLies
namespace Go.Proofs.Ybulkrnm
open Go.RowKit

theorem run_store_float {P : Program} {w : World} {a : Addr} {m : Mode} (k : FloatKind) (b : Nat) : (store a (.float k b) m).run P w = stored P w a (.float k b) m := run_store P w a _ m rfl
theorem cell_at {w : World} {b i : Nat} {cs : Array Value} {t : TypeId} {fr : Nat × Nat} {v : Value} (h : w.heap[b]? = some (.cells cs t fr)) (hi : cs[i]? = some v) : w.cell? ⟨b, i, none⟩ = some v := by
  simp [World.cell?, h, hi]
theorem free_at {w : World} {b i : Nat} {cs : Array Value} {t : TypeId} (h : w.heap[b]? = some (.cells cs t (0, 0))) : w.frozen? ⟨b, i, none⟩ = false := by
  simp [World.frozen?, h]
theorem block_set {w : World} {b i : Nat} {cs : Array Value} {t : TypeId} {fr : Nat × Nat} (h : w.heap[b]? = some (.cells cs t fr)) (u : Value) :
    (w.setCell ⟨b, i, none⟩ u).heap[b]? = some (.cells (cs.setIfInBounds i u) t fr) := by
  have hlt := lt_of_block h
  have h' : w.heap[b] = .cells cs t fr := by simpa [Array.getElem?_eq_getElem hlt] using h
  show (w.heap.modify b _)[b]? = _
  rw [Array.getElem?_eq_getElem (by simpa using hlt), Array.getElem_modify_self, h']
  rfl
theorem block_new (w : World) (o : Obj) : (w.alloc o).heap[w.heap.size]? = some o := heap_alloc_new w o
theorem block_at {w : World} {N : Nat} (hN : w.heap.size = N) (o : Obj) : (w.alloc o).heap[N]? = some o := by subst hN; exact heap_alloc_new w o
theorem block_old {w : World} {b : Nat} {x : Obj} (h : w.heap[b]? = some x) (o : Obj) : (w.alloc o).heap[b]? = some x := by
  rw [Below.heap_alloc _ _ _ (lt_of_block h)]; exact h
theorem block_far {w w' : World} {row : Option Nat} {b : Nat} {x : Obj} (hg : w.grownBy w' row) (h : w.heap[b]? = some x) (hne : some b ≠ row) : w'.heap[b]? = some x := by
  rw [hg.block b (lt_of_block h) hne]; exact h
theorem block_other {w : World} {b : Nat} {x : Obj} (h : w.heap[b]? = some x) {a : Addr} (hne : b ≠ a.block) (u : Value) : (w.setCell a u).heap[b]? = some x := by
  rw [Below.heap_setCell _ _ _ _ hne]; exact h
/-- A row that is owned lies in a block of cells of its element type: so it is not a block of another type. -/
theorem own_ne {w : World} {base : Nat} {e t : TypeId} {size n : Nat} {v : Value} {xs : List Value} {b : Nat} {cs : Array Value} {fr : Nat × Nat} (h : w.ownsRow base e size v n xs) (hb : w.heap[b]? = some (.cells cs t fr)) (ht : t ≠ e) : some b ≠ v.ownBlock := by
  intro hv
  rcases h.2 with ⟨rfl, _⟩ | ⟨g, cap, cur, rfl, _, hh, _⟩
  · simp [Value.ownBlock] at hv
  · simp only [Value.ownBlock, Option.some.injEq] at hv
    subst hv
    rw [hb] at hh
    simp at hh
    exact ht hh.2.1
/-- Two rows of different element types do not lie in one block. -/
theorem own_own {w : World} {base : Nat} {e e' : TypeId} {size size' n n' : Nat} {v v' : Value} {xs xs' : List Value} (h : w.ownsRow base e size v n xs) (h' : w.ownsRow base e' size' v' n' xs') (ht : e ≠ e') : v.ownBlock = none ∨ v.ownBlock ≠ v'.ownBlock := by
  rcases h.2 with ⟨rfl, _⟩ | ⟨g, cap, cur, rfl, _, hh, _⟩
  · exact .inl rfl
  · exact .inr (own_ne h' hh ht)
end Go.Proofs.Ybulkrnm
