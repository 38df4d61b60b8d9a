import Derived.Test.YbulkrkuFmtListD
import Derived.Test.YbulkrkuFmtEncLaw
import Derived.Defers
namespace Go.Proofs.YbulkrkuFmt
open Go.RowKit

theorem close_any (C K : Nat) (bv : Value) (tail : ByteArray) (w : World) (hK : w.heap[K]? = some (.cells #[.pointer (some ⟨C, 0, none⟩)] 26 (0, 0))) (hC : w.heap[C]? = some (.cells #[bv, .bool true, .nilIface, .string tail] 30 (0, 0))) (u : FrameMode) :
    CallsD Ybaf.prog 13 #[.pointer (some ⟨K, 0, none⟩)] u w fun e u' w' => u' = u ∧ (e = .returned (.tuple #[]) ∧ w' = w.setCell ⟨C, 3, none⟩ (.string ⟨#[]⟩)) := by
  have k0 := cell_at (i := 0) hK rfl
  have c3 := cell_at (i := 3) hC rfl
  have f3 := free_at (i := 3) hC
  go_enter_d Ybaf.func13, Ybaf.ntmps13
  go_wp2
  go_end0
  exact ⟨rfl, rfl⟩

theorem BV.str {w : World} {g : Nat} {cs : Array Value} {bv : Value} {l : List UInt8} (h : BV g cs bv l) (hg : w.heap[g]? = some (.cells cs 5 (0, 0))) : (convert 22 9 bv).run Ybaf.prog w = .ok (.string ⟨l.toArray⟩) w := by
  obtain ⟨off, cap, rfl, _, _, hc⟩ := h
  refine run_convert_bytes_back w 22 9 5 ⟨g, off, none⟩ cap l Ybaf.underlying22 Ybaf.underlying5 Ybaf.underlying9 fun j hj => ?_
  rw [add_plain]
  exact cell_at hg (hc j _ (by simp [byteCells, List.getElem?_eq_getElem hj]))

theorem listD_any (B C V g n : Nat) (xs? : Bool) (cs : Array Value) (bv : Value) (extra : List UInt8) (tail : ByteArray) (S : Nat → ByteArray) (w : World) (hC : w.heap[C]? = some (.cells #[bv, .bool true, .nilIface, .string tail] 30 (0, 0)))
    (hV : w.heap[V]? = some (.cells #[.slice none 0 0] 23 (0, 0))) (hg : w.heap[g]? = some (.cells cs 5 (0, 0))) (hb : BV g cs bv ((if xs? then uv (n + 1) ++ encL S n else uv 0) ++ extra)) (hBC : B ≤ C) (hBV : B ≤ V) (hB : B ≤ w.heap.size)
    (ht : tail.data.toList = (if xs? then uv (n + 1) ++ encL S n else uv 0) ++ extra) (hn : n ≤ 1024) (hn0 : xs? = false → n = 0) (hz : tail.size ≤ 50000000) :
    Calls Ybaf.prog 14 #[.pointer (some ⟨C, 0, none⟩), .pointer (some ⟨V, 0, none⟩), .func (.func 15) #[.pointer (some ⟨C, 0, none⟩)] #[]] w fun e w' => ListD B C V g cs tail xs? n S extra w e w' := by
  cases xs? with
  | false =>
    obtain rfl := hn0 rfl
    exact listD_nil B C V g cs bv extra tail S w hC hV hg (by simpa using hb) hBC hB
  | true => exact listD_some B C V g n cs bv extra tail S w hC hV hg (by simpa using hb) hBC hBV hB (by simpa using ht) hn hz

def StringsD (B C V g : Nat) (cs : Array Value) (some? : Bool) (n : Nat) (S : Nat → ByteArray) (rest : List UInt8) (w : World) (e : Ending) (w' : World) : Prop :=
  e = .returned (.tuple #[]) ∧ (∃ bv, BV g cs bv rest ∧ w'.heap[C]? = some (.cells #[bv, .bool true, .nilIface, .string ⟨#[]⟩] 30 (0, 0))) ∧
  (∃ xa, xa.isNone = !some? ∧ ListAt w' V xa n S) ∧ w'.heap[g]? = some (.cells cs 5 (0, 0)) ∧ Below B w w'

set_option maxHeartbeats 400000 in
theorem stringsD_any (B C V g n : Nat) (xs? : Bool) (cs : Array Value) (bv : Value) (extra full : List UInt8) (S : Nat → ByteArray) (w : World) (hC : w.heap[C]? = some (.cells #[bv, .bool true, .nilIface, .string ⟨#[]⟩] 30 (0, 0)))
    (hV : w.heap[V]? = some (.cells #[.slice none 0 0] 23 (0, 0))) (hg : w.heap[g]? = some (.cells cs 5 (0, 0))) (hf : Hid (full = (if xs? then uv (n + 1) ++ encL S n else uv 0) ++ extra)) (hb : BV g cs bv full) (hBC : B ≤ C) (hBV : B ≤ V) (hB : B ≤ w.heap.size)
    (hn : n ≤ 1024) (hn0 : xs? = false → n = 0) (hz : full.length ≤ 50000000) :
    Calls Ybaf.prog 8 #[.pointer (some ⟨C, 0, none⟩), .pointer (some ⟨V, 0, none⟩)] w fun e w' => StringsD B C V g cs xs? n S extra w e w' := by
  have hmf : ∀ (fn : Fn) (first cap : Array Value) (w : World), (Instr.makeFunc fn first cap).run Ybaf.prog w = .ok (.func fn first cap) w := fun _ _ _ _ => rfl
  have hC' := block_old hC (.cells #[.pointer (some ⟨C, 0, none⟩)] 26)
  have c0 := cell_at (i := 0) hC' rfl
  have c1 := cell_at (i := 1) hC' rfl
  have c2 := cell_at (i := 2) hC' rfl
  have c3 := cell_at (i := 3) hC' rfl
  have f3 := free_at (i := 3) hC'
  have hg' := block_old hg (.cells #[.pointer (some ⟨C, 0, none⟩)] 26)
  have q1 := hb.str (w := (w.alloc (.cells #[.pointer (some ⟨C, 0, none⟩)] 26)).drew) hg'
  have hbs : ∃ a n c, bv = .slice a n c := by obtain ⟨off, cap, rfl, _⟩ := hb; exact ⟨_, _, _, rfl⟩
  obtain ⟨ba, bn, bc, rfl⟩ := hbs
  go_enter_defers Ybaf.func8, Ybaf.ntmps8
  go_wp2_with fail
  go_region
  go_wp2_with fail
  have hVC := ne_of_type hV hC (by decide)
  have hgC := ne_of_type hg hC (by decide)
  have hgV := ne_of_type hg hV (by decide)
  have hltC := lt_of_block hC
  have hltV := lt_of_block hV
  have hC1 : (((w.alloc (.cells #[.pointer (some ⟨C, 0, none⟩)] 26)).setCell ⟨C, 3, none⟩ (.string ⟨full.toArray⟩)).drew).heap[C]? = some (.cells #[.slice ba bn bc, .bool true, .nilIface, .string ⟨full.toArray⟩] 30 (0, 0)) := by
    have := block_set (i := 3) hC' (.string ⟨full.toArray⟩)
    simp at this
    exact this
  have hV1 : (((w.alloc (.cells #[.pointer (some ⟨C, 0, none⟩)] 26)).setCell ⟨C, 3, none⟩ (.string ⟨full.toArray⟩)).drew).heap[V]? = some (.cells #[.slice none 0 0] 23 (0, 0)) := block_other (block_old hV _) (a := ⟨C, 3, none⟩) hVC _
  have hg1 : (((w.alloc (.cells #[.pointer (some ⟨C, 0, none⟩)] 26)).setCell ⟨C, 3, none⟩ (.string ⟨full.toArray⟩)).drew).heap[g]? = some (.cells cs 5 (0, 0)) := block_other hg' (a := ⟨C, 3, none⟩) hgC _
  have hK1 : (((w.alloc (.cells #[.pointer (some ⟨C, 0, none⟩)] 26)).setCell ⟨C, 3, none⟩ (.string ⟨full.toArray⟩)).drew).heap[w.heap.size]? = some (.cells #[.pointer (some ⟨C, 0, none⟩)] 26 (0, 0)) := block_other (block_new _ _) (a := ⟨C, 3, none⟩) (by show w.heap.size ≠ C; omega) _
  have hB1 : Hid (Below B w ((w.alloc (.cells #[.pointer (some ⟨C, 0, none⟩)] 26)).setCell ⟨C, 3, none⟩ (.string ⟨full.toArray⟩)).drew) := (((Below.refl B w).alloc hB _).setCell (p := ⟨C, 3, none⟩) hBC _).drew
  clear c0 c1 c2 c3 f3 hC' hg' q1
  generalize ((w.alloc (.cells #[.pointer (some ⟨C, 0, none⟩)] 26)).setCell ⟨C, 3, none⟩ (.string ⟨full.toArray⟩)).drew = w1 at *
  refine (listD_any B C V g n xs? cs _ extra ⟨full.toArray⟩ S w1 hC1 hV1 hg1 (by rw [← hf.out]; exact hb) hBC hBV (Nat.le_trans hB hB1.out.size) (by rw [← hf.out]) hn hn0 hz).mono ?_
  rintro e w2 ⟨rfl, ⟨bv2, hb2, hC2⟩, ⟨xa, hxa, hLA⟩, hS2⟩
  have hg2 := hS2.cells hg1 hgC hgV
  have hK2 := hS2.cells hK1 (by omega) (by omega)
  have hVC2 : V ≠ C := hVC
  have hfin : StringsD B C V g cs xs? n S extra w (.returned (.tuple #[])) (w2.setCell ⟨C, 3, none⟩ (.string ⟨#[]⟩)) := by
    refine ⟨rfl, ⟨bv2, hb2, ?_⟩, ⟨xa, hxa, block_other hLA.1 (a := ⟨C, 3, none⟩) hVC _, ?_⟩, block_other hg2 (a := ⟨C, 3, none⟩) hgC _, (hB1.out.trans hS2.below).setCell (p := ⟨C, 3, none⟩) hBC _⟩
    · have := block_set (i := 3) hC2 (.string ⟨#[]⟩)
      simp at this
      exact this
    · rcases hLA.2 with h | ⟨G, h, hG⟩
      · exact .inl h
      · exact .inr ⟨G, h, block_other hG (a := ⟨C, 3, none⟩) (ne_of_type hG hC2 (by decide)) _⟩
  go_wp2
  refine leaves_cons (f := 13) (args := #[.pointer (some ⟨w.heap.size, 0, none⟩)]) (by simp) (by simp [go_sem]) ?_
  refine (close_any C w.heap.size bv2 _ w2 hK2 hC2 .returning).mono ?_
  rintro e u' w'' ⟨rfl, rfl, rfl⟩
  simp [Leaves, settle, results, Ybaf.results8, go_sem]
  exact hfin
end Go.Proofs.YbulkrkuFmt
