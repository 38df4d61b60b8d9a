import Derived.Test.YbulkrkuCRec
namespace Go.Proofs.Ybulkrku
open Go.RowKit Go.WideMaps

/-- the set of those that have been reached, as the map holds it -/
def rOf (r : ByteArray → Bool) : ByteArray → Option Value := fun s => if r s then some (.bool true) else none
def rAdd (r : ByteArray → Bool) (s : ByteArray) : ByteArray → Bool := fun x => decide (x = s) || r x
theorem rOf_add (r : ByteArray → Bool) (s : ByteArray) : upd (rOf r) s (.bool true) = rOf (rAdd r s) := by
  funext x
  by_cases h : x = s <;> simp [upd, rOf, rAdd, h]

/-- all blocks that were there, but four, are as they were -/
structure Frm (w0 w : World) (T o c rc : Nat) : Prop where
  os : w.os = w0.os
  tape : w.tape = w0.tape
  output : w.output = w0.output
  size : w0.heap.size ≤ w.heap.size
  block : ∀ k, k < w0.heap.size → k ≠ T → k ≠ o → k ≠ c → k ≠ rc → w.heap[k]? = w0.heap[k]?
theorem Frm.of_new {w0 w : World} {T o c rc : Nat} (h : Below w0.heap.size w0 w) : Frm w0 w T o c rc := ⟨h.os, h.tape, h.output, h.size, fun k hk _ _ _ _ => h.block k hk⟩
theorem Frm.trans {w0 w1 w : World} {T o c rc : Nat} (h : Frm w0 w1 T o c rc) (h' : Frm w1 w T o c rc) : Frm w0 w T o c rc :=
  ⟨h'.os.trans h.os, h'.tape.trans h.tape, h'.output.trans h.output, Nat.le_trans h.size h'.size, fun k hk a b d e => (h'.block k (Nat.lt_of_lt_of_le hk h.size) a b d e).trans (h.block k hk a b d e)⟩
theorem Frm.grown {w0 w w' : World} {T o c rc x : Nat} (h : Frm w0 w T o c rc) (hg : w.grownBy w' (some x)) (hx : x = T ∨ x = o ∨ x = c ∨ x = rc) : Frm w0 w' T o c rc :=
  h.trans ⟨hg.os, hg.tape, hg.output, hg.size, fun k hk a b d e => hg.block k hk (by simp; omega)⟩
theorem Frm.below {w0 w : World} {T o c rc B : Nat} (h : Frm w0 w T o c rc) (hB : B ≤ w0.heap.size) (bT : B ≤ T) (bo : B ≤ o) (bc : B ≤ c) (br : B ≤ rc) : Below B w0 w :=
  ⟨h.os, h.tape, h.output, h.size, fun k hk => h.block k (by omega) (by omega) (by omega) (by omega) (by omega)⟩

/-- the state of a count: the tally, the receipt's box, its row of names, what was there -/
structure Cst (w0 w : World) (B RB g n : Nat) (S : Nat → ByteArray) (fr pt : ByteArray) (d : Int) (lo rp : Bool) (T o c er rc N : Nat) (fo fc : ByteArray → Option Value) (r : ByteArray → Bool) (so sc sr : Nat) (dp ms du : Int) (pa : Bool) : Prop where
  tal : Tal w T o c er rc N fo fc (rOf r) so sc sr dp ms du pa
  box : w.heap[RB]? = some (.cells #[.int .u64 0, .string fr, .string pt, .int .i64 d, .slice (some ⟨g, 0, none⟩) n n, .bool lo, .bool rp] 52 (0, 0))
  row : w.ownsRow B 47 1 (.slice (some ⟨g, 0, none⟩) n n) n (mix n S n)
  bel : Frm w0 w T o c rc

section
variable {w w' : World} {T o c er rc N : Nat} {fo fc fr : ByteArray → Option Value} {so sc sr : Nat} {dp ms du : Int} {pa : Bool}

theorem Tal.kept {x : Nat} (h : Tal w T o c er rc N fo fc fr so sc sr dp ms du pa) (hg : w.grownBy w' (some x)) (hT : T ≠ x) (ho : o ≠ x) (hc : c ≠ x) (he : er ≠ x) (hr : rc ≠ x) : Tal w' T o c er rc N fo fc fr so sc sr dp ms du pa :=
  ⟨block_far hg h.blk (by simp; omega), h.owed.kept hg (by simp; omega), h.came.kept hg (by simp; omega), h.erly.kept hg (by simp; omega), h.rchd.kept hg (by simp; omega), h.oc, h.oe, h.or, h.ce, h.cr, h.ers⟩
theorem Tal.alloc (h : Tal w T o c er rc N fo fc fr so sc sr dp ms du pa) (ob : Obj) : Tal (w.alloc ob) T o c er rc N fo fc fr so sc sr dp ms du pa :=
  ⟨block_old h.blk ob, h.owed.alloc ob, h.came.alloc ob, h.erly.alloc ob, h.rchd.alloc ob, h.oc, h.oe, h.or, h.ce, h.cr, h.ers⟩
theorem Tal.drew (h : Tal w T o c er rc N fo fc fr so sc sr dp ms du pa) : Tal w.drew T o c er rc N fo fc fr so sc sr dp ms du pa :=
  ⟨h.blk, h.owed, h.came, h.erly, h.rchd, h.oc, h.oe, h.or, h.ce, h.cr, h.ers⟩
theorem Tal.below {B : Nat} (h : Tal w T o c er rc N fo fc fr so sc sr dp ms du pa) (hb : Below B w w') (hT : T < B) (ho : o < B) (hc : c < B) (he : er < B) (hr : rc < B) : Tal w' T o c er rc N fo fc fr so sc sr dp ms du pa :=
  ⟨(hb.block T hT).trans h.blk, h.owed.below hb ho, h.came.below hb hc, h.erly.below hb he, h.rchd.below hb hr, h.oc, h.oe, h.or, h.ce, h.cr, h.ers⟩
theorem Tal.mono {N' : Nat} (h : Tal w T o c er rc N fo fc fr so sc sr dp ms du pa) (hN : N ≤ N') : Tal w T o c er rc N' fo fc fr so sc sr dp ms du pa :=
  ⟨h.blk, h.owed.mono hN, h.came.mono hN, h.erly.mono hN, h.rchd.mono hN, h.oc, h.oe, h.or, h.ce, h.cr, h.ers⟩

/-- what the tally's own block tells of the others -/
theorem Tal.T_ne (h : Tal w T o c er rc N fo fc fr so sc sr dp ms du pa) : T ≠ o ∧ T ≠ c ∧ T ≠ er ∧ T ≠ rc :=
  ⟨h.owed.ne_cells h.blk, h.came.ne_cells h.blk, h.erly.ne_cells h.blk, h.rchd.ne_cells h.blk⟩

theorem Tal.cameStore (h : Tal w T o c er rc N fo fc fr so sc sr dp ms du pa) (hN : N < maxLen) {s x : ByteArray} (hs : s.size ≤ maxLen) (hx : x.size ≤ maxLen) :
    ∃ w', (Instr.mapUpdate 41 (.map (some c)) (.string s) (.string x)).run Yba.prog w = .ok () w' ∧ Tal w' T o c er rc (N + 1) fo (upd fc s (.string x)) fr so (if (fc s).isSome then sc else sc + 1) sr dp ms du pa ∧ w.grownBy w' (some c) ∧ w'.heap.size = w.heap.size := by
  obtain ⟨w', hr, hm, hg, hs'⟩ := h.came.store (t := 41) Yba.underlying49 Yba.underlying41 hN hs (plainElem_string Yba.underlying47 hx)
  obtain ⟨t1, t2, t3, t4⟩ := h.T_ne
  have oc := h.oc
  have ce := h.ce
  have cr := h.cr
  exact ⟨w', hr, ⟨block_far hg h.blk (by simpa using t2), (h.owed.kept hg (by simpa using oc)).mono (by omega), hm, (h.erly.kept hg (by simpa using ce.symm)).mono (by omega), (h.rchd.kept hg (by simpa using cr.symm)).mono (by omega), h.oc, h.oe, h.or, h.ce, h.cr, h.ers⟩, hg, hs'⟩
theorem Tal.owedStore (h : Tal w T o c er rc N fo fc fr so sc sr dp ms du pa) (hN : N < maxLen) {s x : ByteArray} (hs : s.size ≤ maxLen) (hx : x.size ≤ maxLen) :
    ∃ w', (Instr.mapUpdate 41 (.map (some o)) (.string s) (.string x)).run Yba.prog w = .ok () w' ∧ Tal w' T o c er rc (N + 1) (upd fo s (.string x)) fc fr (if (fo s).isSome then so else so + 1) sc sr dp ms du pa ∧ w.grownBy w' (some o) ∧ w'.heap.size = w.heap.size := by
  obtain ⟨w', hr, hm, hg, hs'⟩ := h.owed.store (t := 41) Yba.underlying49 Yba.underlying41 hN hs (plainElem_string Yba.underlying47 hx)
  obtain ⟨t1, t2, t3, t4⟩ := h.T_ne
  have oc := h.oc
  have oe := h.oe
  have or := h.or
  exact ⟨w', hr, ⟨block_far hg h.blk (by simpa using t1), hm, (h.came.kept hg (by simpa using oc.symm)).mono (by omega), (h.erly.kept hg (by simpa using oe.symm)).mono (by omega), (h.rchd.kept hg (by simpa using or.symm)).mono (by omega), h.oc, h.oe, h.or, h.ce, h.cr, h.ers⟩, hg, hs'⟩
theorem Tal.owedDrop (h : Tal w T o c er rc N fo fc fr so sc sr dp ms du pa) {s : ByteArray} (hs : s.size ≤ maxLen) (ty : TypeId) :
    ∃ w', (Builtin.delete_ #[41, 49] ty #[.map (some o), .string s]).run Yba.prog w = .ok (.tuple #[]) w' ∧ Tal w' T o c er rc N (era fo s) fc fr (if (fo s).isSome then so - 1 else so) sc sr dp ms du pa ∧ w.grownBy w' (some o) ∧ w'.heap.size = w.heap.size := by
  obtain ⟨w', hr, hm, hg, hs'⟩ := h.owed.drop (t := 41) Yba.underlying49 Yba.underlying41 hs ty
  obtain ⟨t1, t2, t3, t4⟩ := h.T_ne
  have oc := h.oc
  have oe := h.oe
  have or := h.or
  exact ⟨w', hr, ⟨block_far hg h.blk (by simpa using t1), hm, h.came.kept hg (by simpa using oc.symm), h.erly.kept hg (by simpa using oe.symm), h.rchd.kept hg (by simpa using or.symm), h.oc, h.oe, h.or, h.ce, h.cr, h.ers⟩, hg, hs'⟩
end

section
variable {w w' : World} {T o c er rc N : Nat} {fo fc : ByteArray → Option Value} {r : ByteArray → Bool} {so sc sr : Nat} {dp ms du : Int} {pa : Bool}
theorem Tal.rchdStore (h : Tal w T o c er rc N fo fc (rOf r) so sc sr dp ms du pa) (hN : N < maxLen) {s : ByteArray} (hs : s.size ≤ maxLen) :
    ∃ w', (Instr.mapUpdate 43 (.map (some rc)) (.string s) (.bool true)).run Yba.prog w = .ok () w' ∧ Tal w' T o c er rc (N + 1) fo fc (rOf (rAdd r s)) so sc (if r s then sr else sr + 1) dp ms du pa ∧ w.grownBy w' (some rc) ∧ w'.heap.size = w.heap.size := by
  obtain ⟨w', hr, hm, hg, hs'⟩ := h.rchd.store (t := 43) Yba.underlying47 Yba.underlying43 hN hs (plainElem_bool Yba.underlying4 true)
  obtain ⟨t1, t2, t3, t4⟩ := h.T_ne
  have or := h.or
  have cr := h.cr
  have ers := h.ers
  rw [rOf_add, show (rOf r s).isSome = r s by cases hh : r s <;> simp [rOf, hh]] at hm
  exact ⟨w', hr, ⟨block_far hg h.blk (by simpa using t4), (h.owed.kept hg (by simpa using or)).mono (by omega), (h.came.kept hg (by simpa using cr)).mono (by omega), (h.erly.kept hg (by simpa using ers)).mono (by omega), hm, h.oc, h.oe, h.or, h.ce, h.cr, h.ers⟩, hg, hs'⟩
theorem Tal.rchdLook (h : Tal w T o c er rc N fo fc (rOf r) so sc sr dp ms du pa) {s : ByteArray} (hs : s.size ≤ maxLen) : (Instr.lookup 43 (.map (some rc)) (.string s) false).run Yba.prog w = .ok (.bool (r s)) w := by
  have := (h.rchd.look (t := 43) Yba.underlying47 Yba.underlying43 (elemInj_bool Yba.underlying4) (zero4 w) (plainElem_bool Yba.underlying4 false) hs).2
  rw [this]
  cases hh : r s <;> simp [rOf, hh]

/-- a store into a cell of the tally's block -/
theorem Tal.set (h : Tal w T o c er rc N fo fc (rOf r) so sc sr dp ms du pa) (i : Nat) (u : Value) {dp' ms' du' : Int} {pa' : Bool}
    (hcs : (#[.map (some o), .map (some c), .map (some er), .int .i64 dp, .int .i64 ms, .int .i64 du, .map (some rc), .int .i64 0, .bool pa] : Array Value).setIfInBounds i u = #[.map (some o), .map (some c), .map (some er), .int .i64 dp', .int .i64 ms', .int .i64 du', .map (some rc), .int .i64 0, .bool pa']) :
    Tal (w.setCell ⟨T, i, none⟩ u) T o c er rc N fo fc (rOf r) so sc sr dp' ms' du' pa' := by
  obtain ⟨t1, t2, t3, t4⟩ := h.T_ne
  exact ⟨by rw [block_set h.blk u, hcs], h.owed.setCell t1.symm u, h.came.setCell t2.symm u, h.erly.setCell t3.symm u, h.rchd.setCell t4.symm u, h.oc, h.oe, h.or, h.ce, h.cr, h.ers⟩
end
end Go.Proofs.Ybulkrku
