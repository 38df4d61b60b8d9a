import Derived.Test.YbulkrkuFmtUintD
namespace Go.Proofs.YbulkrkuFmt
open Go.RowKit

def TakeD (B C g n : Nat) (cs : Array Value) (tail : ByteArray) (rest : List UInt8) (w : World) (e : Ending) (w' : World) : Prop :=
  (∃ a c, e = .returned (.tuple #[.slice a n c, .bool true])) ∧ (∃ bv, BV g cs bv rest ∧ w'.heap[C]? = some (coder bv tail)) ∧ Same2 B C C w w'

theorem takeD_done {B C g n : Nat} {a : Option Addr} {c : Nat} {cs : Array Value} {bv : Value} {rest : List UInt8} {tail : ByteArray} {w w0 : World} (h0 : w0.heap = w.heap) (h1 : w0.os = w.os) (h2 : w0.tape = w.tape) (h3 : w0.output = w.output) (hC : w.heap[C]? = some (.cells #[bv, .bool true, .nilIface, .string tail] 30 (0, 0)))
    (hBC : B ≤ C) (bv' : Value) (hb : BV g cs bv' rest) :
    TakeD B C g n cs tail rest w (.returned (.tuple #[.slice a n c, .bool true])) (w0.setCell ⟨C, 0, none⟩ bv') := by
  have hC' : w0.heap[C]? = some (.cells #[bv, .bool true, .nilIface, .string tail] 30 (0, 0)) := by rw [h0]; exact hC
  refine ⟨⟨a, c, rfl⟩, ⟨bv', hb, ?_⟩, ?_, ?_⟩
  · have := block_set (i := 0) hC' bv'
    simp at this
    exact this
  · exact (Below.trans ⟨h1, h2, h3, by rw [h0]; exact Nat.le_refl _, fun k _ => by rw [h0]⟩ (Below.refl B w0)).setCell (p := ⟨C, 0, none⟩) hBC _
  · intro k hk _ _
    rw [Below.heap_setCell _ _ _ _ hk, h0]

set_option maxHeartbeats 400000 in
theorem takeD_any (B C g n : Nat) (what : ByteArray) (cs : Array Value) (bv : Value) (l rest : List UInt8) (tail : ByteArray) (w : World) (hn : l.length = n) (hC : w.heap[C]? = some (.cells #[bv, .bool true, .nilIface, .string tail] 30 (0, 0)))
    (hb : BV g cs bv (l ++ rest)) (hBC : B ≤ C) (hz : n + rest.length ≤ 100000000) :
    Calls Ybaf.prog 19 #[.pointer (some ⟨C, 0, none⟩), .int .u64 n, .string what] w fun e w' => TakeD B C g n cs tail rest w e w' := by
  obtain ⟨off, cap, rfl, hle, hm, hc⟩ := hb
  have hlen : (l ++ rest).length = n + rest.length := by rw [List.length_append, hn]
  have HC : Hid (∀ j u, (byteCells (l ++ rest))[j]? = some u → cs[off + j]? = some u) := hc
  have Hlen : Hid ((l ++ rest).length = n + rest.length) := hlen
  have Hn : Hid (l.length = n) := hn
  rw [hlen] at hC hle
  have hmx : Hid (cap ≤ maxLen) := hm
  clear hc hlen hn hm
  generalize hrl : rest.length = r at *
  have c0 := cell_at (i := 0) hC rfl
  have f0 := free_at (i := 0) hC
  have t1 : decide ((n : Int) + (r : Int) < (n : Int)) = false := by simp; omega
  have hbv := BV.drop (g := g) (n := n) HC.out Hn.out (by rw [Hlen.out]; exact hle) hmx.out
  rw [hrl] at hbv
  have HBV : Hid (BV g cs (Value.slice (if cap = n then some ⟨g, off, none⟩ else some ⟨g, off + n, none⟩) r (cap - n)) rest) := hbv
  clear hbv
  by_cases hcap : cap = n
  · subst hcap
    rw [if_pos rfl, Nat.sub_self] at HBV
    go_enter Ybaf.func19, Ybaf.ntmps19
    go_wp2_with fail
    go_ret2
    exact takeD_done rfl rfl rfl rfl hC hBC _ (by have h := HBV.out; rw [show r = 0 by omega] at h; exact h)
  · rw [if_neg hcap] at HBV
    go_enter Ybaf.func19, Ybaf.ntmps19
    go_wp2_with fail
    go_ret2
    exact takeD_done rfl rfl rfl rfl hC hBC _ HBV.out
end Go.Proofs.YbulkrkuFmt
