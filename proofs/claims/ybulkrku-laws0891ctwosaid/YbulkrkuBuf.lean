import Derived.Test.YbulkrkuAid
import Derived.ArgAppend
import Derived.Deep.MidRow
import Derived.Laws.IdiomStrings
namespace Go.Proofs.Ybulkrku
open Go.RowKit

/-- bytes as cells -/
def byteCells (l : List UInt8) : List Value := l.map fun b => .int .u8 b.toNat
theorem byteCells_length (l : List UInt8) : (byteCells l).length = l.length := by simp [byteCells]
theorem byteCells_append (l r : List UInt8) : byteCells (l ++ r) = byteCells l ++ byteCells r := by simp [byteCells]
theorem byteCells_one (l : List UInt8) : ∀ u ∈ byteCells l, u.oneCell' = true := by
  intro u hu
  simp only [byteCells, List.mem_map] at hu
  obtain ⟨b, _, rfl⟩ := hu
  rfl

/-- the slice v holds the bytes l, in a block of the call's own (from base on), of which no cell is frozen; or it is nil -/
def BufIs (w : World) (base : Nat) (v : Value) (l : List UInt8) : Prop :=
  (v = .slice none 0 0 ∧ l = []) ∨ ∃ g cap, v = .slice (some ⟨g, 0, none⟩) l.length cap ∧ base ≤ g ∧ g < w.heap.size ∧ l.length ≤ cap ∧ cap ≤ maxLen ∧
    (∀ j u, (byteCells l)[j]? = some u → w.cell? ⟨g, j, none⟩ = some u) ∧ ∀ j, j < cap → (w.cell? ⟨g, j, none⟩).isSome = true ∧ w.frozen? ⟨g, j, none⟩ = false

theorem BufIs.nil (w : World) (base : Nat) : BufIs w base (.slice none 0 0) [] := .inl ⟨rfl, rfl⟩

theorem BufIs.shape {w : World} {base : Nat} {v : Value} {l : List UInt8} (h : BufIs w base v l) : ∃ a cap, v = .slice a l.length cap := by
  rcases h with ⟨rfl, rfl⟩ | ⟨g, cap, rfl, _⟩
  · exact ⟨none, 0, rfl⟩
  · exact ⟨_, cap, rfl⟩

theorem BufIs.mono {w : World} {base base' : Nat} {v : Value} {l : List UInt8} (h : BufIs w base v l) (hb : base' ≤ base) : BufIs w base' v l := by
  rcases h with h | ⟨g, cap, h1, h2, h3⟩
  · exact .inl h
  · exact .inr ⟨g, cap, h1, Nat.le_trans hb h2, h3⟩

theorem BufIs.lt {w : World} {base : Nat} {v : Value} {l : List UInt8} (h : BufIs w base v l) : ∀ k, v.ownBlock = some k → base ≤ k ∧ k < w.heap.size := by
  intro k hk
  rcases h with ⟨rfl, _⟩ | ⟨g, cap, rfl, h2, h3, _⟩
  · simp [Value.ownBlock] at hk
  · simp [Value.ownBlock] at hk
    subst hk
    exact ⟨h2, h3⟩

theorem BufIs.same {w w' : World} {base : Nat} {v : Value} {l : List UInt8} (h : BufIs w base v l) (hs : w.heap.size ≤ w'.heap.size) (hb : ∀ g, v.ownBlock = some g → w'.heap[g]? = w.heap[g]?) : BufIs w' base v l := by
  rcases h with h | ⟨g, cap, rfl, h2, h3, h4, h5, h6, h7⟩
  · exact .inl h
  · have e := hb g rfl
    refine .inr ⟨g, cap, rfl, h2, by omega, h4, h5, fun j u hu => ?_, fun j hj => ?_⟩
    · rw [World.cell?_of_block (w := w) (a := ⟨g, j, none⟩) e]; exact h6 j u hu
    · rw [World.cell?_of_block (w := w) (a := ⟨g, j, none⟩) e, World.frozen?_of_block (w := w) (a := ⟨g, j, none⟩) e]; exact h7 j hj

theorem BufIs.kept {w w' : World} {base : Nat} {v : Value} {l : List UInt8} {row : Option Nat} (h : BufIs w base v l) (hg : w.grownBy w' row) (hne : v.ownBlock = none ∨ v.ownBlock ≠ row) : BufIs w' base v l :=
  h.same hg.size fun g e => hg.block g (h.lt g e).2 (by rcases hne with hn | hn <;> simp_all)
theorem BufIs.alloc {w : World} {base : Nat} {v : Value} {l : List UInt8} (h : BufIs w base v l) (o : Obj) : BufIs (w.alloc o) base v l :=
  h.kept (World.grownBy_alloc w o none) (by cases hv : v.ownBlock <;> simp)
theorem BufIs.drew {w : World} {base : Nat} {v : Value} {l : List UInt8} (h : BufIs w base v l) : BufIs w.drew base v l := h
theorem BufIs.setCell {w : World} {base : Nat} {v : Value} {l : List UInt8} (h : BufIs w base v l) {a : Addr} (ha : v.ownBlock ≠ some a.block) (u : Value) : BufIs (w.setCell a u) base v l :=
  h.same (by simp [World.setCell]) fun g e => Below.heap_setCell _ _ _ _ (fun e' => ha (by rw [e, e']))

/-- what is owned is a buffer -/
theorem BufIs.of_own {w : World} {base : Nat} {e : TypeId} {v : Value} {n : Nat} {l : List UInt8} (h : w.ownsRow base e 1 v n (byteCells l)) : BufIs w base v l := by
  have hn : l.length = n := by have := h.1; simpa [byteCells] using this
  rcases h.2 with ⟨rfl, rfl⟩ | ⟨g, cap, cur, rfl, hb, hg, hle, hm, hcs, htk⟩
  · exact .inl ⟨rfl, List.eq_nil_of_length_eq_zero hn⟩
  · subst hn
    refine .inr ⟨g, cap, rfl, hb, lt_of_block hg, hle, hm, fun j u hu => ?_, fun j hj => ⟨?_, free_at hg⟩⟩
    · have := h.cells (g := g) rfl j u hu
      have ad : (⟨g, 0, none⟩ : Addr).add j = ⟨g, j, none⟩ := by unfold Addr.add; split <;> simp_all
      rwa [ad] at this
    · simp only [Nat.mul_one] at hcs
      rw [cell_at (v := cur[j]'(by omega)) hg (Array.getElem?_eq_getElem (by omega))]
      rfl

theorem grownBy_setCells (b : Nat) : ∀ (vs : List Value) (o : Nat) (w : World), w.grownBy (w.setCells b o vs) (some b)
  | [], _, _ => ⟨rfl, rfl, rfl, Nat.le_refl _, fun _ _ _ => rfl⟩
  | v :: r, o, w => by
    have h := grownBy_setCells b r (o + 1) (w.setCell ⟨b, o, none⟩ v)
    rw [World.setCells]
    exact ⟨h.os, h.tape, h.output, by have := h.size; simpa [World.setCell] using this, fun k hk hne => (h.block k (by simpa [World.setCell] using hk) hne).trans (Below.heap_setCell _ _ _ _ (fun e => hne (by rw [e])))⟩

section
variable {P : Program} (w : World)

/-- append of bytes onto a buffer, room or not -/
theorem run_append_buf (t ty e : TypeId) (i : TypeInfo) (ht : P.underlying t = some (.slice e)) (hi : P.info? e = some i) (hz : i.zero = some (.int .u8 0)) (hsize : i.size = 1) (hby : i.bytes = 1)
    (base : Nat) (v : Value) (l : List UInt8) (hb : BufIs w base v l)
    (a : Addr) (m c : Nat) (news : List UInt8) (hl : news.length = m) (hnews : ∀ j u, (byteCells news)[j]? = some u → w.cell? (a.add j) = some u)
    (hbytes : l.length + m ≤ 140737488355328) (hbase : base ≤ w.heap.size) :
    ∃ v' w', (Builtin.append_ #[t, t] ty #[v, .slice (some a) m c]).run P w = .ok v' w' ∧ BufIs w' base v' (l ++ news) ∧ w.grownBy w' v.ownBlock := by
  have h63 : l.length + m ≤ maxLen := by unfold maxLen; omega
  have hnl : (byteCells news).length = m * 1 := by rw [byteCells_length]; omega
  rcases hb with ⟨rfl, rfl⟩ | ⟨g, cap, rfl, h2, h3, h4, h5, h6, h7⟩
  · obtain ⟨v', w', hr, hown, hg, _⟩ := run_append_own (P := P) w base t ty e i (.int .u8 0) 1 1 ht hi hz hsize hby rfl (by decide) (.slice none 0 0) 0 [] (World.ownsRow_nil w _ e 1) a m c (byteCells news) hnl hnews (byteCells_one news) (by simpa using h63) (by simpa using hbytes) hbase
    exact ⟨v', w', hr, BufIs.of_own (by simpa using hown), hg⟩
  · by_cases hroom : l.length + m ≤ cap
    · have hr := run_append_room_cells (P := P) w t ty e i ht hi g 0 l.length cap a m c (byteCells news) (by rw [hsize]; exact hnl) hnews (byteCells_one news) hroom
        (fun j hj => by rw [byteCells_length] at hj; rw [hsize]; simpa using (h7 (l.length + j) (by omega)).1) (fun j hj => by rw [byteCells_length] at hj; rw [hsize]; simpa using (h7 (l.length + j) (by omega)).2)
      rw [hsize] at hr
      simp only [Nat.zero_add, Nat.mul_one] at hr
      refine ⟨_, _, hr, .inr ⟨g, cap, by simp [hl], h2, ?_, by simp [hl]; omega, h5, fun j u hu => ?_, fun j hj => ⟨?_, ?_⟩⟩, by exact grownBy_setCells g _ _ w⟩
      · exact Nat.lt_of_lt_of_le h3 (grownBy_setCells g _ _ w).size
      · rw [byteCells_append] at hu
        by_cases hj : j < l.length
        · rw [List.getElem?_append_left (by rw [byteCells_length]; exact hj)] at hu
          rw [World.cell?_setCells_out g _ _ w ⟨g, j, none⟩ (fun _ _ => Or.inl hj)]
          exact h6 j u hu
        · rw [List.getElem?_append_right (by rw [byteCells_length]; omega), byteCells_length] at hu
          have hlt := (List.getElem?_eq_some_iff.1 hu).1
          have := World.cell?_setCells_in g (byteCells news) l.length w (fun k hk => by rw [byteCells_length] at hk; exact (h7 (l.length + k) (by omega)).1) (j - l.length) hlt
          rw [show l.length + (j - l.length) = j by omega] at this
          rw [this]
          exact (List.getElem?_eq_getElem hlt).symm.trans hu
      · exact World.isSome_setCells g _ _ w _ (h7 j hj).1
      · rw [World.frozen?_setCells]; exact (h7 j hj).2
    · obtain ⟨v', w', hr, hown, hg⟩ := run_append_arg_grows (P := P) w t ty e i (.int .u8 0) 1 1 ht hi hz hsize hby rfl (by decide) ⟨g, 0, none⟩ l.length cap (byteCells l) (by rw [byteCells_length]; omega)
        (fun j u hu => by have ad : (⟨g, 0, none⟩ : Addr).add j = ⟨g, j, none⟩ := by unfold Addr.add; split <;> simp_all
                          rw [ad]; exact h6 j u hu) a m c (byteCells news) hnl hnews (by omega) h63 (by simpa using hbytes)
      rw [← byteCells_append] at hown
      refine ⟨v', w', hr, (BufIs.of_own hown).mono hbase, ⟨hg.os, hg.tape, hg.output, hg.size, fun k hk _ => hg.block k hk (by simp)⟩⟩

theorem wpList_append_buf {ops : Array Oper} {rest : List Oper} {o : Oper} {a : Act} {Q : Exit → Act → World → Prop} (hgd : o.guard = none) (s x : Operand) (t : TypeId)
    (ho : o.op = .call { callee := .builtin .append, args := #[s, x], argTypes := #[t, t] })
    (e : TypeId) (i : TypeInfo) (ht : P.underlying t = some (.slice e)) (hi : P.info? e = some i) (hz : i.zero = some (.int .u8 0)) (hsize : i.size = 1) (hby : i.bytes = 1)
    (base : Nat) (v : Value) (l : List UInt8) (hs : a.eval s = v) (hb : BufIs w base v l)
    (ad : Addr) (m c : Nat) (news : List UInt8) (hx : a.eval x = .slice (some ad) m c) (hl : news.length = m) (hnews : ∀ j u, (byteCells news)[j]? = some u → w.cell? (ad.add j) = some u)
    (hbytes : l.length + m ≤ 140737488355328) (hbase : base ≤ w.heap.size)
    (h : ∀ v' w', BufIs w' base v' (l ++ news) → w.grownBy w' v.ownBlock → wpList P ops Q rest (a.put o.dst v') w') : wpList P ops Q (o :: rest) a w :=
  wpList_plain hgd fun K hK => by
    obtain ⟨v', w', hr, h2, h3⟩ := run_append_buf (P := P) w t o.type e i ht hi hz hsize hby base v l hb ad m c news hl hnews hbytes hbase
    unfold Oper.wp execOp
    simp only [ho, resolve, invoke, builtin, Sem.run_bind, Sem.run_pure, Result.andThen_ok, List.map_toArray, List.map_cons, List.map_nil, hs, hx, hr]
    exact hK _ _ (h v' w' h2 h3)
end

/-- the bytes, read as a string -/
theorem BufIs.str {P : Program} {w : World} {base : Nat} {v : Value} {l : List UInt8} (h : BufIs w base v l) (src dst e : TypeId) (hs : P.underlying src = some (.slice e)) (he : P.underlying e = some (.int .u8)) (hd : P.underlying dst = some .string) :
    (convert src dst v).run P w = .ok (.string ⟨l.toArray⟩) w := by
  rcases h with ⟨rfl, rfl⟩ | ⟨g, cap, rfl, _, _, _, _, h6, _⟩
  · rw [run_convert_bytes_string w src dst e _ 0 0 hs he hd]
    simp [Conv.bytesToString]
    rfl
  · refine run_convert_bytes_back w src dst e ⟨g, 0, none⟩ cap l hs he hd fun j hj => ?_
    have ad : (⟨g, 0, none⟩ : Addr).add j = ⟨g, j, none⟩ := by unfold Addr.add; split <;> simp_all
    rw [ad]
    exact h6 j _ (by simp [byteCells, List.getElem?_eq_getElem hj])

/-- what '[]byte(s)' lays -/
theorem BufIs.of_string (w : World) (s : ByteArray) (e : TypeId) (cap : Nat) (h1 : s.size ≤ cap) (h2 : cap ≤ maxLen) :
    BufIs (w.drew.alloc (.cells (bytesRow s cap) e ((bytesRow s cap).size, (bytesRow s cap).size + 1))) w.heap.size (.slice (some ⟨w.heap.size, 0, none⟩) s.size cap) s.data.toList := by
  have hsz : (bytesRow s cap).size = cap := by simp [bytesRow]; have : s.data.size = s.size := rfl; omega
  have hb : (w.drew.alloc (.cells (bytesRow s cap) e ((bytesRow s cap).size, (bytesRow s cap).size + 1))).heap[w.heap.size]? = some (.cells (bytesRow s cap) e ((bytesRow s cap).size, (bytesRow s cap).size + 1)) := heap_alloc_new w.drew _
  have hl : s.data.toList.length = s.size := by simp
  refine .inr ⟨w.heap.size, cap, by rw [hl], Nat.le_refl _, lt_of_block hb, by rw [hl]; exact h1, h2, fun j u hu => ?_, fun j hj => ⟨?_, ?_⟩⟩
  · have hlt := (List.getElem?_eq_some_iff.1 hu).1
    rw [byteCells_length, hl] at hlt
    refine cell_at hb ?_
    rw [bytesRow_at s cap j hlt]
    simp only [byteCells, List.getElem?_map, Option.map_eq_some_iff] at hu
    obtain ⟨b, hb', rfl⟩ := hu
    have : s.data[j] = b := by simpa [Array.getElem?_eq_getElem hlt] using hb'
    rw [this]
  · rw [cell_at (v := (bytesRow s cap)[j]'(by omega)) hb (Array.getElem?_eq_getElem (by omega))]
    rfl
  · unfold World.frozen?
    rw [hb]
    simp
    omega

end Go.Proofs.Ybulkrku
