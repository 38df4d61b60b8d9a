import Derived.Test.YbulkrkuFmtListE
namespace Go.Proofs.YbulkrkuFmt
open Go.RowKit
attribute [local go_sem ↓] Go.wp_at_zero Go.wp_at_succ

theorem listE_any (C B V n : Nat) (xa : Option Addr) (S : Nat → ByteArray) (v : Value) (l : List UInt8) (w : World) (hC : CoE w C B v l) (hV : ListAt w V xa n S) (hn : n ≤ 1024) (ht : tot S n ≤ 1048576) (hB : B ≤ w.heap.size) (hBC : B ≤ C) (hl : l.length ≤ 5000000) :
    Calls Ybaf.prog 14 #[.pointer (some ⟨C, 0, none⟩), .pointer (some ⟨V, 0, none⟩), .func (.func 15) #[.pointer (some ⟨C, 0, none⟩)] #[]] w fun e w' => EncPost w C B (l ++ encAll xa n S) e w' := by
  obtain ⟨hV, ⟨rfl, rfl⟩ | ⟨g, rfl, hG⟩⟩ := hV
  · simpa [encAll] using listE_nil C B V v l w hC hV hB hBC hl
  · have := listE_some C B V g n S v l w hC hV hG hn ht hB hBC hl
    simpa [encAll] using this
theorem ListAt.alloc {w : World} {V n : Nat} {xa : Option Addr} {S : Nat → ByteArray} (h : ListAt w V xa n S) (o : Obj) : ListAt (w.alloc o) V xa n S := by
  obtain ⟨h1, h2 | ⟨g, h2, h3⟩⟩ := h
  · exact ⟨block_old h1 o, .inl h2⟩
  · exact ⟨block_old h1 o, .inr ⟨g, h2, block_old h3 o⟩⟩
theorem ListAt.keepC {w w' : World} {C V n : Nat} {xa : Option Addr} {S : Nat → ByteArray} {cs : Array Value} (h : ListAt w V xa n S) (hC : w.heap[C]? = some (.cells cs 30 (0, 0))) (hk : KeepC C w w') : ListAt w' V xa n S := by
  obtain ⟨h1, h2 | ⟨g, h2, h3⟩⟩ := h
  · exact ⟨hk.cells h1 (by decide) (fun e => by subst e; rw [hC] at h1; simp at h1), .inl h2⟩
  · exact ⟨hk.cells h1 (by decide) (fun e => by subst e; rw [hC] at h1; simp at h1), .inr ⟨g, h2, hk.cells h3 (by decide) (fun e => by subst e; rw [hC] at h3; simp at h3)⟩⟩

set_option maxHeartbeats 400000 in
theorem stringsE_any (C B V n : Nat) (xa : Option Addr) (S : Nat → ByteArray) (v : Value) (l : List UInt8) (w : World) (hC : CoE w C B v l) (hV : ListAt w V xa n S) (hn : n ≤ 1024) (ht : tot S n ≤ 1048576) (hB : B ≤ w.heap.size) (hBC : B ≤ C) (hl : l.length ≤ 5000000) :
    Calls Ybaf.prog 8 #[.pointer (some ⟨C, 0, none⟩), .pointer (some ⟨V, 0, none⟩)] w fun e w' => EncPost w C B (l ++ encAll xa n S) e w' := by
  have hC' := hC.alloc (.cells #[.pointer (some ⟨C, 0, none⟩)] 26)
  have c1 := cell_at (i := 1) hC'.blk rfl
  go_enter Ybaf.func8, Ybaf.ntmps8
  go_wp2_with fail
  refine (listE_any C B V n xa S v l _ hC' (hV.alloc _) hn ht (by simp; omega) hBC hl).mono ?_
  rintro e w1 ⟨rfl, v1, hC1, hbel1, hk1⟩
  go_wp2
  go_end0
  exact ⟨rfl, v1, hC1, ((Below.refl B w).alloc hB _).trans hbel1, ((KeepC.refl C w).alloc _).trans hk1⟩
end Go.Proofs.YbulkrkuFmt
