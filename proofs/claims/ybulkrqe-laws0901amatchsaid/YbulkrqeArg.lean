import Derived.Test.YbulkrqeBufO
import Derived.ArgAppend
namespace Go.Proofs.Ybulkrqe
open Go.RowKit

/-- bytes that came in: nil, or at an address below B -/
def ArgBytes (w : World) (B : Nat) (pa : Option Addr) (pn pc : Nat) (pl : List UInt8) : Prop :=
  pl.length = pn ∧ ((pa = none ∧ pn = 0 ∧ pc = 0) ∨ ∃ x : Addr, pa = some x ∧ (0 < pn → x.block < B) ∧ ∀ j u, (byteCells pl)[j]? = some u → w.cell? (x.add j) = some u)

theorem add_block (x : Addr) (j : Nat) : (x.add j).block = x.block := by unfold Addr.add; split <;> rfl
theorem ArgBytes.below {w w' : World} {B : Nat} {pa : Option Addr} {pn pc : Nat} {pl : List UInt8} (h : ArgBytes w B pa pn pc pl) (hb : Below B w w') : ArgBytes w' B pa pn pc pl := by
  obtain ⟨h0, h | ⟨x, h1, h4, h5⟩⟩ := h
  · exact ⟨h0, .inl h⟩
  · refine ⟨h0, .inr ⟨x, h1, h4, fun j u hu => ?_⟩⟩
    have hj : j < pl.length := by have := (List.getElem?_eq_some_iff.1 hu).1; rwa [byteCells_length] at this
    exact (hb.cell (p := x.add j) (by rw [add_block]; exact h4 (by omega))).trans (h5 j u hu)

/-- an own buffer that is not nil, as an argument -/
def NonNil (v : Value) : Prop := ∃ a n c, v = .slice (some a) n c
theorem BufO.nonNil {w : World} {base : Nat} {v : Value} {l : List UInt8} (h : BufO w base v l) (hl : 0 < l.length) : NonNil v := by
  rcases h.2 with ⟨_, h0⟩ | ⟨g, cap, cur, rfl, _⟩
  · omega
  · exact ⟨_, _, _, rfl⟩
theorem BufO.arg {w : World} {base : Nat} {a : Option Addr} {n c : Nat} {l : List UInt8} (h : BufO w base (.slice a n c) l) : ArgBytes w w.heap.size a n c l := by
  have hc := h
  rcases h.2 with ⟨h1, h0⟩ | ⟨g, cap, cur, h1, hb, hg, hle, hm, _⟩
  · simp at h1
    exact ⟨by omega, .inl h1⟩
  · simp at h1
    obtain ⟨rfl, rfl, rfl⟩ := h1
    refine ⟨rfl, .inr ⟨_, rfl, fun _ => lt_of_block hg, fun j u hu => ?_⟩⟩
    exact World.ownsRow.cells hc (g := g) rfl j u hu

theorem wpList_append_arg (w : World) {ops : Array Oper} {rest : List Oper} {o : Oper} {a : Act} {Q : Exit → Act → World → Prop} (hgd : o.guard = none) (s x : Operand)
    (ho : o.op = .call { callee := .builtin .append, args := #[s, x], argTypes := #[22, 22] })
    (base : Nat) (v : Value) (l : List UInt8) (hs : a.eval s = v) (hb : BufO w base v l) (hnn : NonNil v)
    (B : Nat) (pa : Option Addr) (pn pc : Nat) (pl : List UInt8) (hx : a.eval x = .slice pa pn pc) (hP : ArgBytes w B pa pn pc pl)
    (hbytes : l.length + pn ≤ 140737488355328) (hbase : base ≤ w.heap.size)
    (h : ∀ v' w', BufO w' base v' (l ++ pl) → NonNil v' → w.grownBy w' v.ownBlock → wpList Yba.prog ops Q rest (a.put o.dst v') w') : wpList Yba.prog ops Q (o :: rest) a w := by
  have hself : w.grownBy w v.ownBlock := ⟨rfl, rfl, rfl, Nat.le_refl _, fun _ _ _ => rfl⟩
  obtain ⟨h0, ⟨rfl, rfl, rfl⟩ | ⟨y, rfl, h4, h5⟩⟩ := hP
  · obtain rfl := List.eq_nil_of_length_eq_zero h0
    exact wpList_append_bufO_none w hgd s x ho base v l hs hb hx (h v w (by simpa using hb) hnn hself)
  · by_cases hp : pn = 0
    · subst hp
      obtain rfl := List.eq_nil_of_length_eq_zero h0
      obtain ⟨i5, hi, hz0, hz1, hz2⟩ := info_parts info5
      refine wpList_plain hgd fun K hK => ?_
      have hb' := hb
      rcases hb'.2 with ⟨rfl, _⟩ | ⟨g, cap, cur, rfl, hbg, hg, hle, hm, _⟩
      · obtain ⟨_, _, _, e⟩ := hnn
        simp at e
      have hr := run_append_room_cells (P := Yba.prog) w 22 o.type 5 i5 Yba.underlying22 hi g 0 l.length cap y 0 pc [] (by simp) (fun j u hu => by simp at hu) (fun u hu => by simp at hu) (by omega) (fun j hj => by simp at hj) (fun j hj => by simp at hj)
      unfold Oper.wp execOp
      simp only [ho, resolve, invoke, builtin, Sem.run_bind, Sem.run_pure, Result.andThen_ok, List.map_toArray, List.map_cons, List.map_nil, hs, hx, hr]
      exact hK _ _ (h _ w (by simpa using hb) ⟨_, _, _, rfl⟩ hself)
    · exact wpList_append_bufO w hgd s x ho base v l hs hb y pn pc pl hx h0 h5 hbytes hbase fun v' w' hb' hg' => h v' w' hb' (hb'.nonNil (by rw [List.length_append]; omega)) hg'
end Go.Proofs.Ybulkrqe
