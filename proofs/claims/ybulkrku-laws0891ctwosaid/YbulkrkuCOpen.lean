import Derived.Test.YbulkrkuCRec
import Derived.Deep.Slices
import Derived.ProofKit
import Derived.OpenShut
import Derived.ChangeOld
import Derived.SizedLaws
import Derived.SliceStrings
namespace Go.Proofs.Ybulkrku
open Go.RowKit Go.Deep Go.ChangeShapes Go.WideShapes

namespace C
theorem own : ownKnob Yba.prog.godebug = none := by kernel_rfl
theorem laidOut : laidOutB Yba.prog = true := by kernel_rfl
theorem cells9 : Yba.prog.cellsOf 9 = 1 := by kernel_rfl
theorem cells40 : Yba.prog.cellsOf 40 = 6 := by kernel_rfl
theorem cells3 : Yba.prog.cellsOf 3 = 1 := by kernel_rfl
theorem cells4 : Yba.prog.cellsOf 4 = 1 := by kernel_rfl
theorem cells38 : Yba.prog.cellsOf 38 = 1 := by kernel_rfl

theorem addr_plain {w : World} {a : Addr} {v : Value} (h : w.cell? (a.add 0) = some v) : a = ⟨a.block, a.off, none⟩ := by
  have := World.cell?_spot h
  simp [Addr.add] at this
  cases a; simp_all
theorem add_plain (b o j : Nat) : (⟨b, o, none⟩ : Addr).add j = ⟨b, o + j, none⟩ := by
  unfold Addr.add; split <;> simp_all
theorem six {α : Type} {l : List α} (h : l.length = 6) : ∃ a b c d e f, l = [a, b, c, d, e, f] := by
  match l, h with
  | [a, b, c, d, e, f], _ => exact ⟨a, b, c, d, e, f, rfl⟩

theorem open_sent {H : Type} {enc : TypeId × Value → H} {W : World} {fuel : Nat} {v : Value} {x : DataW H × List MemPlace} (h : DataW.trod enc Yba.prog W 0 (fun _ => true) true fuel 38 [v] = some x) :
    ∃ a len cap S, v = .slice a len cap ∧ StrsIs W W.heap.size a len S ∧ ∀ i, i < len → (S i).size ≤ maxLen := by
  rcases open_slice1 Yba.underlying38 cells9 h with ⟨hcs, _⟩ | ⟨x, len, cap, m, n, V, D, Pl, hcs, _, hl, _, hm, _, hx⟩
  · simp at hcs
    exact ⟨none, 0, 0, fun _ => ByteArray.empty, hcs, .inl rfl, fun i hi => by omega⟩
  · simp at hcs
    subst hcs
    simp only [if_true] at hm
    subst hm
    have hy : ∀ i, i < len → ∃ s : ByteArray, V i = .string s ∧ s.size ≤ maxLen := fun i hi => by
      obtain ⟨s, hs, _, hz⟩ := DataW.trod_string Yba.underlying9 (hx i (by omega)).2
      exact ⟨s, by simpa using hs, hz⟩
    obtain ⟨S, hS⟩ := choose_lt hy
    refine ⟨some x, len, m, S, rfl, ?_, fun i hi => (hS i hi).2⟩
    by_cases h0 : len = 0
    · exact .inl h0
    · have h00 := (hx 0 (by omega)).1
      have hp := addr_plain h00
      have hlt := World.block_lt_of_cell? W _ h00
      generalize x.block = b at hp hlt
      generalize x.off = o at hp
      subst hp
      simp only [add_plain] at hx hlt
      exact .inr ⟨b, o, hlt, rfl, fun i hi => by rw [(hx i (by omega)).1, (hS i hi).1]⟩

/-- a record that came in -/
theorem open_rec {H : Type} {enc : TypeId × Value → H} {W : World} {b0 : Nat} {v : Value} {d : DataW H} {p : List MemPlace} (hv : Value.okWide Yba.prog W .any b0 40 v) (h : DataW.Trod enc Yba.prog W 0 (fun _ => true) true 40 v d p) :
    ∃ fr pt dd sa n sc lo pa S, v = .agg #[.string fr, .string pt, .int .i64 dd, .slice sa n sc, .bool lo, .bool pa] ∧ fr.size ≤ maxLen ∧ StrsIs W W.heap.size sa n S ∧ (∀ i, i < n → (S i).size ≤ maxLen) ∧ pt.size ∈ d.weights Yba.prog 40 := by
  obtain ⟨cs, rfl, hsz⟩ := okWide_struct Yba.underlying40 hv
  obtain ⟨fuel, hf⟩ := h
  obtain ⟨xs, k, _, hx, hl, hxl, hff⟩ := DataW.trod_struct Yba.underlying40 hf
  have hd : d = .agg (xs.map (·.1)) := congrArg Prod.fst hx
  rw [cells40] at hsz
  have hcl : cs.toList.length = 6 := by simpa using hsz
  obtain ⟨c0, c1, c2, c3, c4, c5, hc⟩ := six hcl
  obtain ⟨x0, x1, x2, x3, x4, x5, rfl⟩ := six (show xs.length = 6 from hxl)
  obtain rfl : cs = #[c0, c1, c2, c3, c4, c5] := by
    apply Array.toList_inj.1
    simpa using hc
  have f0 := hff 0 _ rfl
  have f1 := hff 1 _ rfl
  have f2 := hff 2 _ rfl
  have f3 := hff 3 _ rfl
  have f4 := hff 4 _ rfl
  have f5 := hff 5 _ rfl
  simp [Value.cells, cells9] at f0 f1
  simp [Value.cells, cells3] at f2
  simp [Value.cells, cells38] at f3
  simp [Value.cells, cells4] at f4 f5
  obtain ⟨fr, e0, _, hz0⟩ := DataW.trod_string Yba.underlying9 f0
  obtain ⟨pt, e1, e1', hz1⟩ := DataW.trod_string Yba.underlying9 f1
  obtain ⟨dd, e2, _⟩ := DataW.trod_int Yba.underlying3 f2
  obtain ⟨sa, n, sc, S, e3, hS, hSz⟩ := open_sent f3
  obtain ⟨lo, e4, _⟩ := DataW.trod_bool Yba.underlying4 f4
  obtain ⟨pa, e5, _⟩ := DataW.trod_bool Yba.underlying4 f5
  simp at e0 e1 e2 e4 e5
  refine ⟨fr, pt, dd, sa, n, sc, lo, pa, S, by rw [e0, e1, e2, e3, e4, e5], hz0, hS, hSz, ?_⟩
  rw [hd, e1']
  have hl1 : pt.data.toList.length = pt.size := by simp
  simp [DataW.weights, DataW.weightsEach, Yba.underlying40]
end C
end Go.Proofs.Ybulkrku
