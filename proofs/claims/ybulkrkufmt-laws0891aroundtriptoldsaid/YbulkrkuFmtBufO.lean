import Derived.Test.YbulkrkuFmtRows
import Derived.Test.YbulkrkuFmtAid
import Derived.Test.YbulkrkuFmtUv
import Derived.Laws.IdiomStrings
import Derived.Laws.AppendOwnNone
import Derived.Lib.AppendStr
import Derived.Laws.BytesArg
namespace Go.Proofs.YbulkrkuFmt
open Go.RowKit

theorem info5 : (Ybaf.prog.info? 5).map (fun i => (i.zero, i.size, i.bytes)) = some (some (.int .u8 0), 1, 1) := by kernel_rfl

/-- bytes as cells -/
def byteCells (l : List UInt8) : List Value := l.map fun b => .int .u8 b.toNat
theorem byteCells_length (l : List UInt8) : (byteCells l).length = l.length := by simp [byteCells]
theorem byteCells_append (l r : List UInt8) : byteCells (l ++ r) = byteCells l ++ byteCells r := by simp [byteCells]
theorem byteCells_one (l : List UInt8) : ∀ u ∈ byteCells l, u.oneCell' = true := by
  intro u hu
  simp only [byteCells, List.mem_map] at hu
  obtain ⟨b, _, rfl⟩ := hu
  rfl
theorem add_plain (b o j : Nat) : (⟨b, o, none⟩ : Addr).add j = ⟨b, o + j, none⟩ := by
  unfold Addr.add; split <;> simp_all

/-- a buffer of the call's own -/
def BufO (w : World) (base : Nat) (v : Value) (l : List UInt8) : Prop := w.ownsRow base 5 1 v l.length (byteCells l)

/-- bytes that lie somewhere: an address that is not nil -/
def BytesAt (w : World) (v : Value) (l : List UInt8) : Prop :=
  ∃ g off cap, v = .slice (some ⟨g, off, none⟩) l.length cap ∧ l.length ≤ cap ∧ cap ≤ maxLen ∧ g < w.heap.size ∧ ∀ j u, (byteCells l)[j]? = some u → w.cell? ⟨g, off + j, none⟩ = some u

theorem BufO.nil (w : World) (base : Nat) : BufO w base (.slice none 0 0) [] := World.ownsRow_nil _ _ _ _
theorem BufO.alloc {w : World} {base : Nat} {v : Value} {l : List UInt8} (h : BufO w base v l) (o : Obj) : BufO (w.alloc o) base v l := World.ownsRow.alloc h o
theorem BufO.drew {w : World} {base : Nat} {v : Value} {l : List UInt8} (h : BufO w base v l) : BufO w.drew base v l := World.ownsRow.drew h
theorem BufO.kept {w w' : World} {base : Nat} {v : Value} {l : List UInt8} {row : Option Nat} (h : BufO w base v l) (hg : w.grownBy w' row) (hne : v.ownBlock = none ∨ v.ownBlock ≠ row) : BufO w' base v l := World.ownsRow.kept h hg hne
theorem BufO.shape {w : World} {base : Nat} {v : Value} {l : List UInt8} (h : BufO w base v l) : ∃ a cap, v = .slice a l.length cap := by
  rcases h.2 with ⟨rfl, h0⟩ | ⟨g, cap, cur, rfl, _⟩
  · exact ⟨none, 0, by rw [h0]⟩
  · exact ⟨_, cap, rfl⟩
theorem BufO.newer {w w' : World} {base : Nat} {v : Value} {l : List UInt8} (h : BufO w base v l) (hb : Below w.heap.size w w') : BufO w' base v l :=
  h.kept (row := some w.heap.size) ⟨hb.os, hb.tape, hb.output, hb.size, fun k hk _ => hb.block k hk⟩ (.inr (fun e => by have := (World.ownsRow.lt h _ e).2; omega))
theorem BufO.base {w : World} {base base' : Nat} {v : Value} {l : List UInt8} (h : BufO w base v l) (hb : base' ≤ base) : BufO w base' v l := by
  obtain ⟨h1, h2⟩ := h
  rcases h2 with h2 | ⟨g, cap, cur, a, b, r⟩
  · exact ⟨h1, .inl h2⟩
  · exact ⟨h1, .inr ⟨g, cap, cur, a, Nat.le_trans hb b, r⟩⟩
theorem BufO.bytes {w : World} {base : Nat} {v : Value} {l : List UInt8} (h : BufO w base v l) (hl : 0 < l.length) : BytesAt w v l := by
  have hc := h
  rcases h.2 with ⟨_, h0⟩ | ⟨g, cap, cur, rfl, hb, hg, hle, hm, _⟩
  · omega
  · refine ⟨g, 0, cap, rfl, hle, hm, lt_of_block hg, fun j u hu => ?_⟩
    have := World.ownsRow.cells hc (g := g) rfl j u hu
    rwa [add_plain] at this

theorem BytesAt.str {w : World} {v : Value} {l : List UInt8} (h : BytesAt w v l) : (convert 22 9 v).run Ybaf.prog w = .ok (.string ⟨l.toArray⟩) w := by
  obtain ⟨g, off, cap, rfl, _, _, _, hc⟩ := h
  refine run_convert_bytes_back w 22 9 5 ⟨g, off, none⟩ cap l Ybaf.underlying22 Ybaf.underlying5 Ybaf.underlying9 fun j hj => ?_
  rw [add_plain]
  exact hc j _ (by simp [byteCells, List.getElem?_eq_getElem hj])
theorem nil_str (w : World) (a : Option Addr) (c : Nat) : (convert 22 9 (.slice a 0 c)).run Ybaf.prog w = .ok (.string ⟨#[]⟩) w := by
  rw [run_convert_bytes_string w 22 9 5 _ 0 c Ybaf.underlying22 Ybaf.underlying5 Ybaf.underlying9]
  cases a <;> simp [Conv.bytesToString, loadCells]
  all_goals rfl
theorem BufO.str {w : World} {base : Nat} {v : Value} {l : List UInt8} (h : BufO w base v l) : (convert 22 9 v).run Ybaf.prog w = .ok (.string ⟨l.toArray⟩) w := by
  by_cases hl : 0 < l.length
  · exact (h.bytes hl).str
  · obtain rfl : l = [] := List.eq_nil_of_length_eq_zero (by omega)
    obtain ⟨a, cap, rfl⟩ := h.shape
    exact nil_str w a cap
theorem BytesAt.below {w w' : World} {v : Value} {l : List UInt8} {B : Nat} (h : BytesAt w v l) (hb : Below B w w') (hB : w.heap.size ≤ B) : BytesAt w' v l := by
  obtain ⟨g, off, cap, h1, h2, h3, h4, h5⟩ := h
  exact ⟨g, off, cap, h1, h2, h3, Nat.lt_of_lt_of_le h4 hb.size, fun j u hu => (hb.cell (p := ⟨g, off + j, none⟩) (by show g < B; omega)).trans (h5 j u hu)⟩

section
variable (w : World)
theorem wpList_append_bufO {ops : Array Oper} {rest : List Oper} {o : Oper} {a : Act} {Q : Exit → Act → World → Prop} (hgd : o.guard = none) (s x : Operand)
    (ho : o.op = .call { callee := .builtin .append, args := #[s, x], argTypes := #[22, 22] })
    (base : Nat) (v : Value) (l : List UInt8) (hs : a.eval s = v) (hb : BufO w base v l)
    (ad : Addr) (m c : Nat) (news : List UInt8) (hx : a.eval x = .slice (some ad) m c) (hl : news.length = m) (hnews : ∀ j u, (byteCells news)[j]? = some u → w.cell? (ad.add j) = some u)
    (hbytes : l.length + m ≤ 140737488355328) (hbase : base ≤ w.heap.size)
    (h : ∀ v' w', BufO w' base v' (l ++ news) → w.grownBy w' v.ownBlock → wpList Ybaf.prog ops Q rest (a.put o.dst v') w') : wpList Ybaf.prog ops Q (o :: rest) a w := by
  obtain ⟨i5, hi, hz0, hz1, hz2⟩ := info_parts info5
  refine wpList_append_own w hgd s x 22 ho base 5 i5 (.int .u8 0) 1 1 Ybaf.underlying22 hi hz0 hz1 hz2 rfl (by decide) v l.length (byteCells l) hs hb ad m c (byteCells news) hx (by rw [byteCells_length]; omega) hnews (byteCells_one news) (by unfold maxLen; omega) (by omega) hbase fun v' w' hown hg _ => h v' w' ?_ hg
  unfold BufO
  rw [byteCells_append, List.length_append, hl]
  exact hown
theorem wpList_append_bufO_none {ops : Array Oper} {rest : List Oper} {o : Oper} {a : Act} {Q : Exit → Act → World → Prop} (hgd : o.guard = none) (s x : Operand)
    (ho : o.op = .call { callee := .builtin .append, args := #[s, x], argTypes := #[22, 22] })
    (base : Nat) (v : Value) (l : List UInt8) (hs : a.eval s = v) (hb : BufO w base v l) (hx : a.eval x = .slice none 0 0)
    (h : wpList Ybaf.prog ops Q rest (a.put o.dst v) w) : wpList Ybaf.prog ops Q (o :: rest) a w := by
  obtain ⟨i5, hi, hz0, hz1, hz2⟩ := info_parts info5
  refine wpList_plain hgd fun K hK => ?_
  have hr := run_append_owned_none (P := Ybaf.prog) w base 22 o.type 5 i5 1 Ybaf.underlying22 hi v l.length (byteCells l) hb
  unfold Oper.wp execOp
  simp only [ho, resolve, invoke, builtin, Sem.run_bind, Sem.run_pure, Result.andThen_ok, List.map_toArray, List.map_cons, List.map_nil, hs, hx, hr]
  exact hK _ _ h
theorem wp_append_bufO_string {o : Oper} {a : Act} {K : Act → World → Prop} {Q : Exit → Act → World → Prop} (s x : Operand)
    (ho : o.op = .call { callee := .builtin .append, args := #[s, x], argTypes := #[22, 9] })
    (base : Nat) (v : Value) (l : List UInt8) (hs : a.eval s = v) (hb : BufO w base v l) (str : ByteArray) (hx : a.eval x = .string str)
    (hbytes : l.length + str.size ≤ 140737488355328) (hbase : base ≤ w.heap.size)
    (h : ∀ v' w', BufO w' base v' (l ++ str.data.toList) → w.grownBy w' v.ownBlock → K (a.put o.dst v') w') : o.wp Ybaf.prog a w K Q := by
  obtain ⟨i5, hi, hz0, hz1, hz2⟩ := info_parts info5
  obtain ⟨v', w', hr, hown, hg, _⟩ := Lib.run_append_own_string (P := Ybaf.prog) w base 22 9 o.type 5 i5 Ybaf.underlying22 Ybaf.underlying9 hi hz0 hz1 hz2 v l.length (byteCells l) hb str (by unfold maxLen; omega) hbytes hbase
  unfold Oper.wp execOp
  simp only [ho, resolve, invoke, builtin, Sem.run_bind, Sem.run_pure, Result.andThen_ok, List.map_toArray, List.map_cons, List.map_nil, hs, hx, hr]
  refine h v' w' ?_ hg
  unfold BufO
  rw [byteCells_append, List.length_append, show str.data.toList.length = str.size by simp]
  exact hown
theorem wpList_append_bufO_string {ops : Array Oper} {rest : List Oper} {o : Oper} {a : Act} {Q : Exit → Act → World → Prop} (hgd : o.guard = none) (s x : Operand)
    (ho : o.op = .call { callee := .builtin .append, args := #[s, x], argTypes := #[22, 9] })
    (base : Nat) (v : Value) (l : List UInt8) (hs : a.eval s = v) (hb : BufO w base v l) (str : ByteArray) (hx : a.eval x = .string str)
    (hbytes : l.length + str.size ≤ 140737488355328) (hbase : base ≤ w.heap.size)
    (h : ∀ v' w', BufO w' base v' (l ++ str.data.toList) → w.grownBy w' v.ownBlock → wpList Ybaf.prog ops Q rest (a.put o.dst v') w') : wpList Ybaf.prog ops Q (o :: rest) a w :=
  wpList_plain hgd fun _ hK => wp_append_bufO_string w s x ho base v l hs hb str hx hbytes hbase fun v' w' h1 h2 => hK _ _ (h v' w' h1 h2)
theorem step_append_bufO_string {ops : Array Oper} {o : Oper} {a : Act} {K : Act → World → Prop} {Q : Exit → Act → World → Prop} {E : Prop} (hgd : o.guard = none) (s x : Operand)
    (ho : o.op = .call { callee := .builtin .append, args := #[s, x], argTypes := #[22, 9] })
    (base : Nat) (v : Value) (l : List UInt8) (hs : a.eval s = v) (hb : BufO w base v l) (str : ByteArray) (hx : a.eval x = .string str)
    (hbytes : l.length + str.size ≤ 140737488355328) (hbase : base ≤ w.heap.size)
    (h : ∀ v' w', BufO w' base v' (l ++ str.data.toList) → w.grownBy w' v.ownBlock → K (a.put o.dst v') w') :
    if Region.wanted o (yielded ops a.tmps) = true then Oper.wp Ybaf.prog o a w K Q else E := by
  have hw : Region.wanted o (yielded ops a.tmps) = true := by simp [Region.wanted, hgd]
  rw [if_pos hw]
  exact wp_append_bufO_string w s x ho base v l hs hb str hx hbytes hbase h
end

theorem news_one {w : World} {t : TypeId} {x : Int} {u : UInt8} (h : x = (u.toNat : Int)) : ∀ j z, (byteCells [u])[j]? = some z → (w.alloc (.cells #[.int .u8 x] t)).cell? ((⟨w.heap.size, 0, none⟩ : Addr).add j) = some z := by
  subst h
  exact cell_one_new w (.int .u8 u.toNat) t

/-- every block that is no row of bytes is as it was -/
def Keep5 (w w' : World) : Prop := ∀ (k : Nat) (o : Obj), w.heap[k]? = some o → (∀ cs fr, o ≠ .cells cs 5 fr) → w'.heap[k]? = some o
theorem Keep5.refl (w : World) : Keep5 w w := fun _ _ h _ => h
theorem Keep5.trans {a b c : World} (h : Keep5 a b) (h' : Keep5 b c) : Keep5 a c := fun k o ho hn => h' k o (h k o ho hn) hn
theorem Keep5.alloc {a w : World} (h : Keep5 a w) (o : Obj) : Keep5 a (w.alloc o) := fun k x hx hn => block_old (h k x hx hn) o
theorem Keep5.drew {a w : World} (h : Keep5 a w) : Keep5 a w.drew := h
theorem Keep5.grown {a w w' : World} {base : Nat} {v : Value} {l : List UInt8} (h : Keep5 a w) (hb : BufO w base v l) (hg : w.grownBy w' v.ownBlock) : Keep5 a w' := fun k x hx hn => by
  refine block_far hg (h k x hx hn) fun e => ?_
  rcases hb.2 with ⟨rfl, _⟩ | ⟨g, cap, cur, rfl, _, hgg, _⟩
  · simp [Value.ownBlock] at e
  · simp [Value.ownBlock] at e
    subst e
    have := (h k x hx hn).symm.trans hgg
    exact hn _ _ (Option.some.inj this)
theorem Keep5.new {a w w' : World} (h : Keep5 a w) (hb : Below w.heap.size w w') : Keep5 a w' := fun k x hx hn => (hb.block k (lt_of_block (h k x hx hn))).trans (h k x hx hn)
theorem Keep5.cells {w w' : World} (h : Keep5 w w') {k : Nat} {cs : Array Value} {t : TypeId} {fr : Nat × Nat} (hk : w.heap[k]? = some (.cells cs t fr)) (ht : t ≠ 5) : w'.heap[k]? = some (.cells cs t fr) :=
  h k _ hk (fun _ _ e => ht (by cases e; rfl))

set_option maxRecDepth 100000 in
set_option maxHeartbeats 400000 in
theorem appendUv_any (base : Nat) (v : Value) (l : List UInt8) (x : Nat) (w : World) (hx : Hid (x < 128 ^ 10)) (hb : BufO w base v l) (hbase : base ≤ w.heap.size) (hl : l.length + 10 ≤ 140737488355328) :
    Calls Ybaf.prog 16 #[v, .int .u64 x] w fun e w' => ∃ v', e = .returned v' ∧ BufO w' base v' (l ++ uv x) ∧ Below base w w' ∧ Keep5 w w' := by
  go_enter Ybaf.func16, Ybaf.ntmps16
  go_wp2
  go_loopw [0, 1] (fun b y wr => ∃ (f k : Nat) (done : List UInt8), f ≤ 9 ∧ Hid (k < 128 ^ (f + 1)) ∧ done.length + (f + 1) ≤ l.length + 10 ∧ y = .int .u64 k ∧ BufO wr base b done ∧ Hid (done ++ uvF (f + 1) k = l ++ uv x) ∧ Below base w wr ∧ Keep5 w wr) (fun _ y _ => (intOf y).toNat)
  case atStart => exact ⟨9, x, l, by omega, hx, by omega, rfl, hb, rfl, Below.refl _ _, Keep5.refl _⟩
  case round =>
    obtain ⟨f, k, done, hf, hk, hdl, rfl, hbr, heq, hbel, hkp⟩ := hrel
    have hsz : base ≤ wr.heap.size := Nat.le_trans hbase hbel.size
    obtain ⟨ba, bc, hbs⟩ := hbr.shape
    subst hbs
    by_cases hlt : k < 128
    · have hsm : (k : Int) = ((UInt8.ofNat k).toNat : Int) := by have := byte_small k hlt; omega
      have hfin : done ++ [UInt8.ofNat k] = l ++ uv x := by rw [← heq.out, uvF_small hlt]
      generalize UInt8.ofNat k = u at hsm hfin
      have HF : Hid (done ++ [u] = l ++ uv x) := hfin
      have HS : Hid ((k : Int) = (u.toNat : Int)) := hsm
      have HK : Hid (Keep5 w wr) := hkp
      clear hfin hsm hkp
      go_wp2_with (at_builtin; go_must (refine wpList_append_bufO _ rfl _ _ rfl base _ done rfl (hbr.alloc _) ⟨wr.heap.size, 0, none⟩ 1 1 [u] rfl rfl (news_one HS.out) (by omega) (by simp; omega) ?_; intro v' w1 hb1 hg1))
      go_ret
      exact ⟨v', rfl, by rw [← HF.out]; exact hb1, (hbel.alloc hsz _).grown hg1 (by simp; omega) (fun j hj => (World.ownsRow.lt hbr j hj).1), (HK.out.alloc _).grown (hbr.alloc _) hg1⟩
    · have hor := bits_or128 k
      have HK : Hid (Keep5 w wr) := hkp
      clear hkp
      generalize hu : UInt8.ofNat (k % 128 + 128) = u at hor
      go_wp2_with (at_builtin; go_must (refine wpList_append_bufO _ rfl _ _ rfl base _ done rfl (hbr.alloc _) ⟨wr.heap.size, 0, none⟩ 1 1 [u] rfl rfl (cell_one_new _ _ _) (by omega) (by simp; omega) ?_; intro v' w1 hb1 hg1))
      obtain ⟨f', rfl⟩ : ∃ f', f = f' + 1 := by
        cases f with
        | zero => have := hk.out; simp at this; omega
        | succ f' => exact ⟨f', rfl⟩
      have hk' : k / 128 < 128 ^ (f' + 1) := by have := hk.out; rw [Nat.pow_succ] at this; omega
      have hbel1 : Below base w w1 := (hbel.alloc hsz _).grown hg1 (by simp; omega) (fun j hj => (World.ownsRow.lt hbr j hj).1)
      go_roundw
      case rel => exact ⟨f', k / 128, done ++ [u], by omega, hk', by simp; omega, by go_num, hb1, by rw [← hu]; rw [uvF_great hlt] at heq; simpa using heq, hbel1, (HK.out.alloc _).grown (hbr.alloc _) hg1⟩
      case measure => simp [intOf]; omega
end Go.Proofs.YbulkrkuFmt
