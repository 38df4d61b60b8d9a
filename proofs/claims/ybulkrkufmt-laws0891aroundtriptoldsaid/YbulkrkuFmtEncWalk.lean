import Derived.Test.YbulkrkuFmtEncLaw
namespace Go.Proofs.YbulkrkuFmt
open Go.RowKit
attribute [local go_sem ↓] Go.wp_at_zero Go.wp_at_succ

/-- bytes that came in: nil, or at an address below B -/
def ArgBytes (w : World) (B : Nat) (pa : Option Addr) (pn pc : Nat) (pl : List UInt8) : Prop :=
  pl.length = pn ∧ ((pa = none ∧ pn = 0 ∧ pc = 0) ∨ ∃ x : Addr, pa = some x ∧ (0 < pn → x.block < B) ∧ ∀ j u, (byteCells pl)[j]? = some u → w.cell? (x.add j) = some u)

theorem add_block (x : Addr) (j : Nat) : (x.add j).block = x.block := by unfold Addr.add; split <;> rfl
theorem ArgBytes.below {w w' : World} {B : Nat} {pa : Option Addr} {pn pc : Nat} {pl : List UInt8} (h : ArgBytes w B pa pn pc pl) (hb : Below B w w') : ArgBytes w' B pa pn pc pl := by
  obtain ⟨h0, h | ⟨x, h1, h4, h5⟩⟩ := h
  · exact ⟨h0, .inl h⟩
  · refine ⟨h0, .inr ⟨x, h1, h4, fun j u hu => ?_⟩⟩
    have hj : j < pl.length := by have := (List.getElem?_eq_some_iff.1 hu).1; rwa [byteCells_length] at this
    exact (hb.cell (p := x.add j) (by rw [add_block]; exact h4 (by omega))).trans (h5 j u hu)
theorem ArgBytes.str {w : World} {B : Nat} {pa : Option Addr} {pn pc : Nat} {pl : List UInt8} (h : ArgBytes w B pa pn pc pl) : (convert 22 9 (.slice pa pn pc)).run Ybaf.prog w = .ok (.string ⟨pl.toArray⟩) w := by
  obtain ⟨rfl, ⟨rfl, h2, rfl⟩ | ⟨x, rfl, _, h5⟩⟩ := h
  · obtain rfl := List.eq_nil_of_length_eq_zero h2
    exact nil_str w _ _
  · refine run_convert_bytes_back w 22 9 5 x pc pl Ybaf.underlying22 Ybaf.underlying5 Ybaf.underlying9 fun j hj => ?_
    exact h5 j _ (by simp [byteCells, List.getElem?_eq_getElem hj])
theorem wpList_append_arg (w : World) {ops : Array Oper} {rest : List Oper} {o : Oper} {a : Act} {Q : Exit → Act → World → Prop} (hgd : o.guard = none) (s x : Operand)
    (ho : o.op = .call { callee := .builtin .append, args := #[s, x], argTypes := #[22, 22] })
    (base : Nat) (v : Value) (l : List UInt8) (hs : a.eval s = v) (hb : BufO w base v l)
    (B : Nat) (pa : Option Addr) (pn pc : Nat) (pl : List UInt8) (hx : a.eval x = .slice pa pn pc) (hP : ArgBytes w B pa pn pc pl)
    (hbytes : l.length + pn ≤ 140737488355328) (hbase : base ≤ w.heap.size)
    (h : ∀ v' w', BufO w' base v' (l ++ pl) → w.grownBy w' v.ownBlock → wpList Ybaf.prog ops Q rest (a.put o.dst v') w') : wpList Ybaf.prog ops Q (o :: rest) a w := by
  obtain ⟨h0, ⟨rfl, rfl, rfl⟩ | ⟨y, rfl, h4, h5⟩⟩ := hP
  · obtain rfl := List.eq_nil_of_length_eq_zero h0
    refine wpList_append_bufO_none w hgd s x ho base v l hs hb hx (h v w (by simpa using hb) ⟨rfl, rfl, rfl, Nat.le_refl _, fun _ _ _ => rfl⟩)
  · exact wpList_append_bufO w hgd s x ho base v l hs hb y pn pc pl hx h0 h5 hbytes hbase h

def LawPost (w : World) (e : Ending) (w' : World) : Prop := e = .returned (.bool true) ∧ Below w.heap.size w w'

theorem encLong (pa : Option Addr) (pn pc : Nat) (xv : Value) (w : World) (hp : 4096 < pn) :
    Calls Ybaf.prog 3 #[.slice pa pn pc, xv] w fun e w' => LawPost w e w' := by
  have t1 : decide (4096 < (pn : Int)) = true := by simp; omega
  go_enter Ybaf.func3, Ybaf.ntmps3
  go_wp2
  go_ret
  exact ⟨rfl, Below.refl _ _⟩

set_option maxHeartbeats 400000 in
theorem encLaw_any (pa xa : Option Addr) (pn pc n xc : Nat) (pl : List UInt8) (S : Nat → ByteArray) (w : World) (hp : pn ≤ 4096) (hP : ArgBytes w w.heap.size pa pn pc pl) (hS : StrsIs w w.heap.size xa n S) (hz : ∀ i, i < n → (S i).size ≤ 140737488351232) :
    Calls Ybaf.prog 3 #[.slice pa pn pc, .slice xa n xc] w fun e w' => LawPost w e w' := by
  have t1 : decide (4096 < (pn : Int)) = false := by simp; omega
  go_enter Ybaf.func3, Ybaf.ntmps3
  go_wp2_with fail
  refine (toolong_any xa n xc w.heap.size S _ hS hz).mono ?_
  rintro e w1 ⟨b, rfl, rfl, hb⟩
  cases b with
  | true =>
    go_wp2
    go_ret
    exact ⟨rfl, Below.refl _ _⟩
  | false =>
    obtain ⟨hn, ht⟩ := hb rfl
    clear hb
    go_wp2_with fail
    refine (copy_any xa n xc w.heap.size S w hn (Nat.le_refl _) hS).mono ?_
    rintro e w1 hcp
    obtain ⟨ya, rfl, hya, hbel1, hl1⟩ : ∃ ya, e = .returned (.slice ya n n) ∧ ya.isNone = xa.isNone ∧ Below w.heap.size w w1 ∧ ((ya = none ∧ n = 0) ∨ ∃ g, ya = some ⟨g, 0, none⟩ ∧ w1.heap[g]? = some (.cells (strVals n S).toArray 9 (0, 0))) := by
      rcases hcp with ⟨rfl, rfl, rfl, rfl⟩ | ⟨h1, rfl, h2, h3⟩
      · exact ⟨none, rfl, rfl, Below.refl _ _, .inl ⟨rfl, rfl⟩⟩
      · exact ⟨_, rfl, h1.symm, h3, .inr ⟨_, rfl, h2⟩⟩
    clear hcp
    have hP1 := hP.below hbel1
    have hB1 := hbel1.size
    have HB1 : Hid (Below w.heap.size w w1) := hbel1
    generalize hN : w1.heap.size = N at *
    clear hbel1
    go_wp2_with (at_builtin; go_must (refine wpList_append_arg _ rfl _ _ rfl w.heap.size (.slice none 0 0) [] rfl (BufO.nil _ _) w.heap.size pa pn pc pl rfl (hP1.below ((Below.refl _ _).alloc (by omega) _)) (by simp; omega) (by simp; omega) ?_; intro v2 w2 hb2 hg2; rw [List.nil_append] at hb2; obtain ⟨a2, p2, hs2⟩ := hb2.shape; subst hs2))
    have hLA : ListAt w2 N ya n S := by
      refine ⟨block_far hg2 (block_at hN _) (by simp [Value.ownBlock]), ?_⟩
      rcases hl1 with h | ⟨g, h, hg⟩
      · exact .inl h
      · exact .inr ⟨g, h, block_far hg2 (block_old hg _) (by simp [Value.ownBlock])⟩
    have hbel2 : Hid (Below w.heap.size w w2) := (HB1.out.alloc (by omega) _).grown hg2 (by simp; omega) (fun j hj => by simp [Value.ownBlock] at hj)
    have hB2 := hbel2.out.size
    clear hg2 HB1 hl1 hP1
    generalize hM : w2.heap.size = M at *
    refine (stringsE_any M w.heap.size N n ya S _ pl _ ⟨block_at hM _, hb2.alloc _⟩ (hLA.alloc _) hn ht (by simp; omega) hB2 (by have := hP.1; omega)).mono ?_
    rintro e w3 ⟨rfl, v3, hC3, hbel3, hk3⟩
    have hLA3 := (hLA.alloc _).keepC (block_at hM _) hk3
    have hB3 : Hid (Below w.heap.size w w3) := (hbel2.out.alloc (by omega) _).trans hbel3
    have hB3' := hB3.out.size
    have hP3 := hP.below hB3.out
    clear hLA hk3 hbel3 hbel2 hb2
    go_wp2_with (at_builtin; go_must (refine wpList_append_arg _ rfl _ _ rfl w3.heap.size (.slice none 0 0) [] rfl (BufO.nil _ _) w.heap.size pa pn pc pl rfl hP3 (by simp; omega) (Nat.le_refl _) ?_; intro v4 w4 hb4 hg4; rw [List.nil_append] at hb4; obtain ⟨a4, p4, hs4⟩ := hb4.shape; subst hs4))
    have hb34 : Below w3.heap.size w3 w4 := (Below.refl _ _).grown hg4 (Nat.le_refl _) (fun j hj => by simp [Value.ownBlock] at hj)
    have hB4 : Below w.heap.size w w4 := hB3.out.trans (hb34.mono hB3')
    refine (enc_any w3.heap.size _ pl xa n xc w.heap.size S w4 hb4 hb34.size (by have := hP.1; omega) hn ht hB3' (hS.below hB4)).mono ?_
    rintro e w5 ⟨v5, rfl, hb5, hbel5, _⟩
    have hb35 : Below w3.heap.size w3 w5 := hb34.trans hbel5
    have hB5 : Hid (Below w.heap.size w w5) := hB3.out.trans (hb35.mono hB3')
    have hC5 : CoE w5 M w.heap.size v3 (pl ++ encAll ya n S) := ⟨(hb35.block _ (lt_of_block hC3.blk)).trans hC3.blk, hC3.buf.newer hb35⟩
    have hL5 : ListAt w5 N ya n S := by
      obtain ⟨h1, h2⟩ := hLA3
      refine ⟨(hb35.block _ (lt_of_block h1)).trans h1, ?_⟩
      rcases h2 with h | ⟨g, h, hg⟩
      · exact .inl h
      · exact .inr ⟨g, h, (hb35.block _ (lt_of_block hg)).trans hg⟩
    have hea : encAll ya n S = encAll xa n S := by unfold encAll; rw [hya]
    rw [hea] at hC5
    clear hb34 hbel5 hb35 hLA3 hC3 hb4 hg4 hB4 hP3 hB3
    obtain ⟨a3, p3, hs3⟩ := hC5.buf.shape
    obtain ⟨a5, p5, hs5⟩ := hb5.shape
    have q1 := hC5.buf.str
    have q2 := hb5.str
    have d0 := cell_at (i := 0) hC5.blk rfl
    have d2 := cell_at (i := 2) hC5.blk rfl
    have d3 := cell_at (i := 3) hC5.blk rfl
    have y0 := cell_at (i := 0) hL5.1 rfl
    generalize pl ++ encAll xa n S = full at *
    subst hs3 hs5
    go_wp2_with fail
    refine (equal_any _ _ ⟨full.toArray⟩ w5 q1 q2).mono ?_
    rintro e w6 ⟨rfl, rfl⟩
    clear q1 q2
    have hY : StrsIs w5 w5.heap.size ya n S := by
      rcases hL5.2 with ⟨_, h⟩ | ⟨g, rfl, hg⟩
      · exact .inl h
      · exact strsIs_of_block hg _ (lt_of_block hg)
    go_wp2_with fail
    refine (same_any ya xa n n xc _ _ S w5 hn hY (hS.below hB5.out) hya).mono ?_
    rintro e w6 ⟨rfl, m, rfl⟩
    go_wp2
    go_ret
    exact ⟨rfl, hB5.out.trans ⟨rfl, rfl, rfl, Nat.le_refl _, fun _ _ => rfl⟩⟩
end Go.Proofs.YbulkrkuFmt
