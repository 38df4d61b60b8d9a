import Derived.Test.YbulkrkuFmtCopy
import Derived.Deep.RegionHeld3
import Derived.Deep.RegionLaw
import Derived.Deep.RegionWith
import Derived.Deep.DrawnRows
namespace Go.Proofs.YbulkrkuFmt
open Go.RowKit
attribute [local go_sem ↓] Go.wp_at_zero Go.wp_at_succ

/-- a coder that writes -/
structure CoE (w : World) (C B : Nat) (v : Value) (l : List UInt8) : Prop where
  blk : w.heap[C]? = some (.cells #[v, .bool false, .nilIface, .string ⟨#[]⟩] 30 (0, 0))
  buf : BufO w B v l
/-- every block but C that is no row of bytes is as it was -/
def KeepC (C : Nat) (w w' : World) : Prop := ∀ (k : Nat) (o : Obj), k ≠ C → w.heap[k]? = some o → (∀ cs fr, o ≠ .cells cs 5 fr) → w'.heap[k]? = some o
theorem KeepC.refl (C : Nat) (w : World) : KeepC C w w := fun _ _ _ h _ => h
theorem KeepC.trans {C : Nat} {a b c : World} (h : KeepC C a b) (h' : KeepC C b c) : KeepC C a c := fun k o hk ho hn => h' k o hk (h k o hk ho hn) hn
theorem KeepC.of5 {C : Nat} {a b : World} (h : Keep5 a b) : KeepC C a b := fun k o _ ho hn => h k o ho hn
theorem KeepC.alloc {C : Nat} {a w : World} (h : KeepC C a w) (o : Obj) : KeepC C a (w.alloc o) := fun k x hk hx hn => block_old (h k x hk hx hn) o
theorem KeepC.set {C : Nat} {a w : World} (h : KeepC C a w) (i : Nat) (u : Value) : KeepC C a (w.setCell ⟨C, i, none⟩ u) := fun k x hk hx hn => block_other (h k x hk hx hn) hk u
theorem KeepC.cells {C : Nat} {w w' : World} (h : KeepC C w w') {k : Nat} {cs : Array Value} {t : TypeId} {fr : Nat × Nat} (hk : w.heap[k]? = some (.cells cs t fr)) (ht : t ≠ 5) (hC : k ≠ C) : w'.heap[k]? = some (.cells cs t fr) :=
  h k _ hC hk (fun _ _ e => ht (by cases e; rfl))
theorem CoE.alloc {w : World} {C B : Nat} {v : Value} {l : List UInt8} (h : CoE w C B v l) (o : Obj) : CoE (w.alloc o) C B v l := ⟨block_old h.blk o, h.buf.alloc o⟩
theorem CoE.drew {w : World} {C B : Nat} {v : Value} {l : List UInt8} (h : CoE w C B v l) : CoE w.drew C B v l := ⟨h.blk, h.buf⟩
/-- the buffer's row is not the coder's block -/
theorem BufO.ne {w : World} {B C : Nat} {v : Value} {l : List UInt8} {cs : Array Value} {t : TypeId} {fr : Nat × Nat} (h : BufO w B v l) (hb : w.heap[C]? = some (.cells cs t fr)) (ht : t ≠ 5) : v.ownBlock ≠ some C := fun e => (own_ne h hb ht) e.symm
/-- the new buffer, stored -/
theorem CoE.stored {w w1 : World} {C B : Nat} {v v1 : Value} {l l1 : List UInt8} (h : CoE w C B v l) (hk : Keep5 w w1) (hb : BufO w1 B v1 l1) : CoE (w1.setCell ⟨C, 0, none⟩ v1) C B v1 l1 := by
  have hb1 := hk.cells h.blk (by decide)
  exact ⟨by simpa using block_set (i := 0) hb1 v1, ownsRow_setCell_other hb (hb.ne hb1 (by decide)) v1⟩

def EncPost (w : World) (C B : Nat) (l : List UInt8) (e : Ending) (w' : World) : Prop := e = .returned (.tuple #[]) ∧ ∃ v', CoE w' C B v' l ∧ Below B w w' ∧ KeepC C w w'

set_option maxHeartbeats 400000 in
theorem uintE_any (C V B : Nat) (v : Value) (l : List UInt8) (x : Nat) (w : World) (hx : Hid (x < 128 ^ 10)) (hC : CoE w C B v l) (hV : w.heap[V]? = some (.cells #[.int .u64 x] 43 (0, 0))) (hB : B ≤ w.heap.size) (hBC : B ≤ C) (hl : l.length + 10 ≤ 140737488355328) :
    Calls Ybaf.prog 17 #[.pointer (some ⟨C, 0, none⟩), .pointer (some ⟨V, 0, none⟩)] w fun e w' => EncPost w C B (l ++ uv x) e w' := by
  have c0 := cell_at (i := 0) hC.blk rfl
  have c1 := cell_at (i := 1) hC.blk rfl
  have v0 := cell_at (i := 0) hV rfl
  go_enter Ybaf.func17, Ybaf.ntmps17
  go_wp2_with fail
  go_region_with (go_at_call 16; refine (appendUv_any B v l x _ hx hC.buf.drew hB hl).mono ?_; rintro e w1 ⟨v1, rfl, hb1, hbel1, hk1⟩; have d0 := cell_at (i := 0) (Keep5.cells hk1 hC.drew.blk (by decide)) rfl; have f0 := free_at (i := 0) (Keep5.cells hk1 hC.drew.blk (by decide)); obtain ⟨a1, p1, hs1⟩ := hb1.shape; subst hs1)
  all_goals
    have hst := CoE.stored hC.drew hk1 hb1
    have hbe := hbel1.setCell (p := ⟨C, 0, none⟩) hBC (.slice a1 (l ++ uv x).length p1)
    have hkc := (KeepC.of5 (C := C) hk1).set 0 (.slice a1 (l ++ uv x).length p1)
    go_wp2
    refine bodyPost_ret (v := .tuple #[]) (by simp [results, Ybaf.results17]) rfl ?_
    rw [List.length_append] at hst hbe hkc
    exact ⟨rfl, _, hst, (Below.refl B w).drew.trans hbe, hkc⟩
end Go.Proofs.YbulkrkuFmt
