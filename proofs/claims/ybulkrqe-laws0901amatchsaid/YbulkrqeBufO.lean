import Derived.Test.YbulkrqeRows
import Derived.Test.YbulkrqeAid
import Derived.Laws.IdiomStrings
import Derived.Laws.AppendOwnNone
import Derived.Lib.AppendStr
import Derived.Laws.BytesArg
namespace Go.Proofs.Ybulkrqe
open Go.RowKit

theorem info5 : (Yba.prog.info? 5).map (fun i => (i.zero, i.size, i.bytes)) = some (some (.int .u8 0), 1, 1) := by kernel_rfl

/-- bytes as cells -/
def byteCells (l : List UInt8) : List Value := l.map fun b => .int .u8 b.toNat
theorem byteCells_length (l : List UInt8) : (byteCells l).length = l.length := by simp [byteCells]
theorem byteCells_append (l r : List UInt8) : byteCells (l ++ r) = byteCells l ++ byteCells r := by simp [byteCells]
theorem byteCells_one (l : List UInt8) : ∀ u ∈ byteCells l, u.oneCell' = true := by
  intro u hu
  simp only [byteCells, List.mem_map] at hu
  obtain ⟨b, _, rfl⟩ := hu
  rfl
theorem add_plain (b o j : Nat) : (⟨b, o, none⟩ : Addr).add j = ⟨b, o + j, none⟩ := by
  unfold Addr.add; split <;> simp_all

/-- a buffer of the call's own -/
def BufO (w : World) (base : Nat) (v : Value) (l : List UInt8) : Prop := w.ownsRow base 5 1 v l.length (byteCells l)

/-- bytes that lie somewhere: an address that is not nil -/
def BytesAt (w : World) (v : Value) (l : List UInt8) : Prop :=
  ∃ g off cap, v = .slice (some ⟨g, off, none⟩) l.length cap ∧ l.length ≤ cap ∧ cap ≤ maxLen ∧ g < w.heap.size ∧ ∀ j u, (byteCells l)[j]? = some u → w.cell? ⟨g, off + j, none⟩ = some u

theorem BufO.nil (w : World) (base : Nat) : BufO w base (.slice none 0 0) [] := World.ownsRow_nil _ _ _ _
theorem BufO.alloc {w : World} {base : Nat} {v : Value} {l : List UInt8} (h : BufO w base v l) (o : Obj) : BufO (w.alloc o) base v l := World.ownsRow.alloc h o
theorem BufO.drew {w : World} {base : Nat} {v : Value} {l : List UInt8} (h : BufO w base v l) : BufO w.drew base v l := World.ownsRow.drew h
theorem BufO.kept {w w' : World} {base : Nat} {v : Value} {l : List UInt8} {row : Option Nat} (h : BufO w base v l) (hg : w.grownBy w' row) (hne : v.ownBlock = none ∨ v.ownBlock ≠ row) : BufO w' base v l := World.ownsRow.kept h hg hne
theorem BufO.shape {w : World} {base : Nat} {v : Value} {l : List UInt8} (h : BufO w base v l) : ∃ a cap, v = .slice a l.length cap := by
  rcases h.2 with ⟨rfl, h0⟩ | ⟨g, cap, cur, rfl, _⟩
  · exact ⟨none, 0, by rw [h0]⟩
  · exact ⟨_, cap, rfl⟩
theorem BufO.newer {w w' : World} {base : Nat} {v : Value} {l : List UInt8} (h : BufO w base v l) (hb : Below w.heap.size w w') : BufO w' base v l :=
  h.kept (row := some w.heap.size) ⟨hb.os, hb.tape, hb.output, hb.size, fun k hk _ => hb.block k hk⟩ (.inr (fun e => by have := (World.ownsRow.lt h _ e).2; omega))
theorem BufO.base {w : World} {base base' : Nat} {v : Value} {l : List UInt8} (h : BufO w base v l) (hb : base' ≤ base) : BufO w base' v l := by
  obtain ⟨h1, h2⟩ := h
  rcases h2 with h2 | ⟨g, cap, cur, a, b, r⟩
  · exact ⟨h1, .inl h2⟩
  · exact ⟨h1, .inr ⟨g, cap, cur, a, Nat.le_trans hb b, r⟩⟩
theorem BufO.bytes {w : World} {base : Nat} {v : Value} {l : List UInt8} (h : BufO w base v l) (hl : 0 < l.length) : BytesAt w v l := by
  have hc := h
  rcases h.2 with ⟨_, h0⟩ | ⟨g, cap, cur, rfl, hb, hg, hle, hm, _⟩
  · omega
  · refine ⟨g, 0, cap, rfl, hle, hm, lt_of_block hg, fun j u hu => ?_⟩
    have := World.ownsRow.cells hc (g := g) rfl j u hu
    rwa [add_plain] at this

theorem BytesAt.str {w : World} {v : Value} {l : List UInt8} (h : BytesAt w v l) : (convert 22 9 v).run Yba.prog w = .ok (.string ⟨l.toArray⟩) w := by
  obtain ⟨g, off, cap, rfl, _, _, _, hc⟩ := h
  refine run_convert_bytes_back w 22 9 5 ⟨g, off, none⟩ cap l Yba.underlying22 Yba.underlying5 Yba.underlying9 fun j hj => ?_
  rw [add_plain]
  exact hc j _ (by simp [byteCells, List.getElem?_eq_getElem hj])
theorem nil_str (w : World) (a : Option Addr) (c : Nat) : (convert 22 9 (.slice a 0 c)).run Yba.prog w = .ok (.string ⟨#[]⟩) w := by
  rw [run_convert_bytes_string w 22 9 5 _ 0 c Yba.underlying22 Yba.underlying5 Yba.underlying9]
  cases a <;> simp [Conv.bytesToString, loadCells]
  all_goals rfl
theorem BufO.str {w : World} {base : Nat} {v : Value} {l : List UInt8} (h : BufO w base v l) : (convert 22 9 v).run Yba.prog w = .ok (.string ⟨l.toArray⟩) w := by
  by_cases hl : 0 < l.length
  · exact (h.bytes hl).str
  · obtain rfl : l = [] := List.eq_nil_of_length_eq_zero (by omega)
    obtain ⟨a, cap, rfl⟩ := h.shape
    exact nil_str w a cap
theorem BytesAt.below {w w' : World} {v : Value} {l : List UInt8} {B : Nat} (h : BytesAt w v l) (hb : Below B w w') (hB : w.heap.size ≤ B) : BytesAt w' v l := by
  obtain ⟨g, off, cap, h1, h2, h3, h4, h5⟩ := h
  exact ⟨g, off, cap, h1, h2, h3, Nat.lt_of_lt_of_le h4 hb.size, fun j u hu => (hb.cell (p := ⟨g, off + j, none⟩) (by show g < B; omega)).trans (h5 j u hu)⟩

section
variable (w : World)
theorem wpList_append_bufO {ops : Array Oper} {rest : List Oper} {o : Oper} {a : Act} {Q : Exit → Act → World → Prop} (hgd : o.guard = none) (s x : Operand)
    (ho : o.op = .call { callee := .builtin .append, args := #[s, x], argTypes := #[22, 22] })
    (base : Nat) (v : Value) (l : List UInt8) (hs : a.eval s = v) (hb : BufO w base v l)
    (ad : Addr) (m c : Nat) (news : List UInt8) (hx : a.eval x = .slice (some ad) m c) (hl : news.length = m) (hnews : ∀ j u, (byteCells news)[j]? = some u → w.cell? (ad.add j) = some u)
    (hbytes : l.length + m ≤ 140737488355328) (hbase : base ≤ w.heap.size)
    (h : ∀ v' w', BufO w' base v' (l ++ news) → w.grownBy w' v.ownBlock → wpList Yba.prog ops Q rest (a.put o.dst v') w') : wpList Yba.prog ops Q (o :: rest) a w := by
  obtain ⟨i5, hi, hz0, hz1, hz2⟩ := info_parts info5
  refine wpList_append_own w hgd s x 22 ho base 5 i5 (.int .u8 0) 1 1 Yba.underlying22 hi hz0 hz1 hz2 rfl (by decide) v l.length (byteCells l) hs hb ad m c (byteCells news) hx (by rw [byteCells_length]; omega) hnews (byteCells_one news) (by unfold maxLen; omega) (by omega) hbase fun v' w' hown hg _ => h v' w' ?_ hg
  unfold BufO
  rw [byteCells_append, List.length_append, hl]
  exact hown
theorem wpList_append_bufO_none {ops : Array Oper} {rest : List Oper} {o : Oper} {a : Act} {Q : Exit → Act → World → Prop} (hgd : o.guard = none) (s x : Operand)
    (ho : o.op = .call { callee := .builtin .append, args := #[s, x], argTypes := #[22, 22] })
    (base : Nat) (v : Value) (l : List UInt8) (hs : a.eval s = v) (hb : BufO w base v l) (hx : a.eval x = .slice none 0 0)
    (h : wpList Yba.prog ops Q rest (a.put o.dst v) w) : wpList Yba.prog ops Q (o :: rest) a w := by
  obtain ⟨i5, hi, hz0, hz1, hz2⟩ := info_parts info5
  refine wpList_plain hgd fun K hK => ?_
  have hr := run_append_owned_none (P := Yba.prog) w base 22 o.type 5 i5 1 Yba.underlying22 hi v l.length (byteCells l) hb
  unfold Oper.wp execOp
  simp only [ho, resolve, invoke, builtin, Sem.run_bind, Sem.run_pure, Result.andThen_ok, List.map_toArray, List.map_cons, List.map_nil, hs, hx, hr]
  exact hK _ _ h
end

theorem news_one {w : World} {t : TypeId} {x : Int} {u : UInt8} (h : x = (u.toNat : Int)) : ∀ j z, (byteCells [u])[j]? = some z → (w.alloc (.cells #[.int .u8 x] t)).cell? ((⟨w.heap.size, 0, none⟩ : Addr).add j) = some z := by
  subst h
  exact cell_one_new w (.int .u8 u.toNat) t

/-- every block that is no row of bytes is as it was -/
def Keep5 (w w' : World) : Prop := ∀ (k : Nat) (o : Obj), w.heap[k]? = some o → (∀ cs fr, o ≠ .cells cs 5 fr) → w'.heap[k]? = some o
theorem Keep5.refl (w : World) : Keep5 w w := fun _ _ h _ => h
theorem Keep5.trans {a b c : World} (h : Keep5 a b) (h' : Keep5 b c) : Keep5 a c := fun k o ho hn => h' k o (h k o ho hn) hn
theorem Keep5.alloc {a w : World} (h : Keep5 a w) (o : Obj) : Keep5 a (w.alloc o) := fun k x hx hn => block_old (h k x hx hn) o
theorem Keep5.drew {a w : World} (h : Keep5 a w) : Keep5 a w.drew := h
theorem Keep5.grown {a w w' : World} {base : Nat} {v : Value} {l : List UInt8} (h : Keep5 a w) (hb : BufO w base v l) (hg : w.grownBy w' v.ownBlock) : Keep5 a w' := fun k x hx hn => by
  refine block_far hg (h k x hx hn) fun e => ?_
  rcases hb.2 with ⟨rfl, _⟩ | ⟨g, cap, cur, rfl, _, hgg, _⟩
  · simp [Value.ownBlock] at e
  · simp [Value.ownBlock] at e
    subst e
    have := (h k x hx hn).symm.trans hgg
    exact hn _ _ (Option.some.inj this)
theorem Keep5.new {a w w' : World} (h : Keep5 a w) (hb : Below w.heap.size w w') : Keep5 a w' := fun k x hx hn => (hb.block k (lt_of_block (h k x hx hn))).trans (h k x hx hn)
theorem Keep5.cells {w w' : World} (h : Keep5 w w') {k : Nat} {cs : Array Value} {t : TypeId} {fr : Nat × Nat} (hk : w.heap[k]? = some (.cells cs t fr)) (ht : t ≠ 5) : w'.heap[k]? = some (.cells cs t fr) :=
  h k _ hk (fun _ _ e => ht (by cases e; rfl))

end Go.Proofs.Ybulkrqe
