import Derived.Test.YbulkrkuFmtUvD
import Derived.Deep.QuietTactic
import Derived.BigQuiet
import Derived.BigRegion
namespace Go.Proofs.YbulkrkuFmt
open Go.RowKit

theorem uvF_last : ∀ (f x : Nat), 0 < x → x < 128 ^ (f + 1) → ∃ b : UInt8, (uvF (f + 1) x)[(uvF (f + 1) x).length - 1]? = some b ∧ 0 < b.toNat
  | f, x, h0, hx => by
    by_cases hlt : x < 128
    · refine ⟨UInt8.ofNat x, by rw [uvF_small hlt]; rfl, ?_⟩
      simp [UInt8.toNat_ofNat']; omega
    · cases f with
      | zero => simp at hx; omega
      | succ f =>
        obtain ⟨b, hb, hp⟩ := uvF_last f (x / 128) (by omega) (by rw [Nat.pow_succ] at hx; omega)
        refine ⟨b, ?_, hp⟩
        rw [uvF_great hlt]
        have := uvF_pos (f := f) (x := x / 128)
        rw [List.length_cons, show (uvF (f + 1) (x / 128)).length + 1 - 1 = ((uvF (f + 1) (x / 128)).length - 1) + 1 by omega, List.getElem?_cons_succ]
        exact hb

/-- bytes of a block, as a slice holds them -/
def BV (g : Nat) (cs : Array Value) (bv : Value) (l : List UInt8) : Prop :=
  ∃ off cap, bv = .slice (some ⟨g, off, none⟩) l.length cap ∧ l.length ≤ cap ∧ cap ≤ maxLen ∧ ∀ j u, (byteCells l)[j]? = some u → cs[off + j]? = some u
theorem BV.drop {g : Nat} {cs : Array Value} {off cap n : Nat} {l r : List UInt8} (hc : ∀ j u, (byteCells (l ++ r))[j]? = some u → cs[off + j]? = some u) (hl : l.length = n) (hle : (l ++ r).length ≤ cap) (hm : cap ≤ maxLen) :
    BV g cs (.slice (if cap = n then some ⟨g, off, none⟩ else some ⟨g, off + n, none⟩) r.length (cap - n)) r := by
  rw [List.length_append] at hle
  by_cases h : cap = n
  · rw [if_pos h]
    obtain rfl : r = [] := List.eq_nil_of_length_eq_zero (by omega)
    exact ⟨off, cap - n, rfl, by simp, by omega, fun j u hu => by simp [byteCells] at hu⟩
  · rw [if_neg h]
    refine ⟨off + n, cap - n, rfl, by omega, by omega, fun j u hu => ?_⟩
    have := hc (n + j) u (by rw [byteCells_append, List.getElem?_append_right (by rw [byteCells_length]; omega), byteCells_length, hl, show n + j - n = j by omega]; exact hu)
    rwa [show off + (n + j) = off + n + j by omega] at this

/-- all blocks but two are as they were -/
structure Same2 (B C V : Nat) (w w' : World) : Prop where
  below : Below B w w'
  same : ∀ k, k ≠ C → k ≠ V → k < w.heap.size → w'.heap[k]? = w.heap[k]?

def coder (bv : Value) (tail : ByteArray) : Obj := .cells #[bv, .bool true, .nilIface, .string tail] 30 (0, 0)
def UintD (B C V g : Nat) (cs : Array Value) (tail : ByteArray) (x : Nat) (rest : List UInt8) (w : World) (e : Ending) (w' : World) : Prop :=
  e = .returned (.tuple #[]) ∧ (∃ bv, BV g cs bv rest ∧ w'.heap[C]? = some (coder bv tail)) ∧ w'.heap[V]? = some (.cells #[.int .u64 x] 43 (0, 0)) ∧ Same2 B C V w w'

theorem uintD_done {B C V g x : Nat} {z : Int} {cs : Array Value} {bv : Value} {rest : List UInt8} {tail : ByteArray} {w : World} (hC : w.heap[C]? = some (.cells #[bv, .bool true, .nilIface, .string tail] 30 (0, 0)))
    (hV : w.heap[V]? = some (.cells #[.int .u64 z] 43 (0, 0))) (hBC : B ≤ C) (hBV : B ≤ V) (hCV : ¬ C = V) (bv' : Value) (hb : BV g cs bv' rest) :
    UintD B C V g cs tail x rest w (.returned (.tuple #[])) ((w.setCell ⟨V, 0, none⟩ (.int .u64 x)).setCell ⟨C, 0, none⟩ bv').drew := by
  refine ⟨rfl, ⟨bv', hb, ?_⟩, ?_, ?_, ?_⟩
  · have := block_set (i := 0) (block_other hC (a := ⟨V, 0, none⟩) hCV (.int .u64 x)) bv'
    simp at this
    exact this
  · have := block_other (block_set (i := 0) hV (.int .u64 x)) (a := ⟨C, 0, none⟩) (fun e => hCV e.symm) bv'
    simp at this
    exact this
  · exact (((Below.refl B w).setCell (p := ⟨V, 0, none⟩) hBV _).setCell (p := ⟨C, 0, none⟩) hBC _).drew
  · intro k h1 h2 _
    show ((w.setCell ⟨V, 0, none⟩ (.int .u64 x)).setCell ⟨C, 0, none⟩ bv').heap[k]? = _
    rw [Below.heap_setCell _ _ _ _ h1, Below.heap_setCell _ _ _ _ h2]

set_option maxHeartbeats 400000 in
theorem uintD_any (B C V g x : Nat) (z : Int) (cs : Array Value) (bv : Value) (rest : List UInt8) (tail : ByteArray) (w : World) (hx : Hid (x < 268435456)) (hC : w.heap[C]? = some (.cells #[bv, .bool true, .nilIface, .string tail] 30 (0, 0)))
    (hV : w.heap[V]? = some (.cells #[.int .u64 z] 43 (0, 0))) (hg : w.heap[g]? = some (.cells cs 5 (0, 0))) (hb : BV g cs bv (uv x ++ rest)) (hBC : B ≤ C) (hBV : B ≤ V) :
    Calls Ybaf.prog 17 #[.pointer (some ⟨C, 0, none⟩), .pointer (some ⟨V, 0, none⟩)] w fun e w' => UintD B C V g cs tail x rest w e w' := by
  obtain ⟨off, cap, rfl, hle, hm, hc⟩ := hb
  have c0 := cell_at (i := 0) hC rfl
  have c1 := cell_at (i := 1) hC rfl
  have c2 := cell_at (i := 2) hC rfl
  have f0 := free_at (i := 0) hC
  have v0 := cell_at (i := 0) hV rfl
  have fv := free_at (i := 0) hV
  have hcell : ∀ j u, (byteCells (uv x ++ rest))[j]? = some u → w.cell? ⟨g, off + j, none⟩ = some u := fun j u hu => cell_at hg (hc j u hu)
  have hpos := uv_pos x
  have hlen : (uv x ++ rest).length = (uv x).length + rest.length := List.length_append
  have HC : Hid (∀ j u, (byteCells (uv x ++ rest))[j]? = some u → cs[off + j]? = some u) := hc
  clear hc
  have hCV : ¬ C = V := fun e => by subst e; rw [hC] at hV; simp at hV
  have hVC : ¬ V = C := fun e => hCV e.symm
  go_enter Ybaf.func17, Ybaf.ntmps17
  go_wp2_with fail
  refine (uvD_any g off _ cap x rest w hx hlen hcell).mono ?_
  rintro e w1 ⟨rfl, rfl⟩
  obtain ⟨m, hml⟩ : ∃ m, (uv x).length = m + 1 := ⟨(uv x).length - 1, by omega⟩
  have hlast : 0 < m → ∃ b : UInt8, w.cell? ⟨g, off + m, none⟩ = some (.int .u8 b.toNat) ∧ 0 < b.toNat := fun h => by
    have hx0 : 0 < x := by
      rcases Nat.eq_zero_or_pos x with rfl | h'
      · have : (uv 0).length = 1 := rfl
        omega
      · exact h'
    obtain ⟨b, hb1, hb2⟩ := uvF_last 9 x hx0 (by have := hx.out; omega)
    refine ⟨b, hcell m _ ?_, hb2⟩
    have hb3 : (uv x)[m]? = some b := by
      have : (uvF (9 + 1) x).length - 1 = m := by show (uv x).length - 1 = m; omega
      rw [this] at hb1
      exact hb1
    rw [byteCells_append, List.getElem?_append_left (by rw [byteCells_length]; omega)]
    simp [byteCells, hb3]
  clear hcell
  have Hml : Hid ((uv x).length = m + 1) := hml
  rw [hml] at hlen ⊢
  have Hlen : Hid ((uv x ++ rest).length = m + 1 + rest.length) := hlen
  have hle' : m + 1 + rest.length ≤ cap := by omega
  have hmx : cap ≤ 9223372036854775807 := hm
  rw [hlen] at hC c0
  clear hlen hml hle hm hpos
  generalize hrl : rest.length = r at *
  by_cases h1 : m = 0
  · subst h1
    clear hlast
    go_wp2_with fail
    go_region
    have hbv := BV.drop (g := g) (n := 1) HC.out Hml.out (by rw [Hlen.out]; exact hle') hmx
    rw [hrl] at hbv
    by_cases hcap : cap = 1
    · rw [if_pos hcap] at hbv
      subst hcap
      go_wp2
      go_end0
      exact uintD_done hC hV hBC hBV hCV _ (by simpa using hbv)
    · rw [if_neg hcap] at hbv
      go_wp2
      go_end0
      exact uintD_done hC hV hBC hBV hCV _ hbv
  · obtain ⟨b, hb1, hb2⟩ := hlast (by omega)
    clear hlast
    have tb : ((b.toNat : Int) == 0) = false := by simp; omega
    have tb' : ¬ (b.toNat : Int) = 0 := by omega
    go_wp2_with fail
    go_region
    have hbv := BV.drop (g := g) (n := m + 1) HC.out Hml.out (by rw [Hlen.out]; exact hle') hmx
    rw [hrl] at hbv
    by_cases hcap : cap = m + 1
    · rw [if_pos hcap] at hbv
      subst hcap
      go_wp2
      go_end0
      exact uintD_done hC hV hBC hBV hCV _ (by simpa using hbv)
    · rw [if_neg hcap] at hbv
      go_wp2
      go_end0
      exact uintD_done hC hV hBC hBV hCV _ hbv
end Go.Proofs.YbulkrkuFmt
