import Derived.Test.YbulkrkuFmtEncWalk
import Derived.Test.YbulkrkuFmtCards
import Derived.Deep.Slices
import Derived.ProofKit
import Derived.OpenShut
import Derived.ChangeOld
import Derived.SizedLaws
import Derived.SliceStrings
import Derived.Stop.JoinedTold
import Derived.SevenToldRow
namespace Go.Proofs.YbulkrkuFmt
open Go.RowKit Go.Deep Go.ChangeShapes Go.WideShapes

theorem own : ownKnob Ybaf.prog.godebug = none := by kernel_rfl
theorem laidOut : laidOutB Ybaf.prog = true := by kernel_rfl
theorem cells9 : Ybaf.prog.cellsOf 9 = 1 := by kernel_rfl
theorem cells5 : Ybaf.prog.cellsOf 5 = 1 := by kernel_rfl
theorem stops : Ybaf.pinned.checked.prog.stops = ["fmt.errorf"] := by kernel_rfl
theorem stopKnobs : Ybaf.pinned.checked.prog.stopKnobs = [] := by kernel_rfl
theorem quiet (os : Os) : Stop.quiet Ybaf.pinned.checked.prog os := by
  intro k hk
  rw [stopKnobs] at hk
  cases hk

theorem addr_plain {w : World} {a : Addr} {v : Value} (h : w.cell? (a.add 0) = some v) : a = ⟨a.block, a.off, none⟩ := by
  have := World.cell?_spot h
  simp [Addr.add] at this
  cases a; simp_all

theorem weights_all {H : Type} {P : Program} {e : TypeId} : ∀ {l : List (DataW H)} {d : DataW H}, d ∈ l → ∀ n ∈ d.weights P e, n ∈ DataW.weightsAll P e l
  | x :: l, d, hd, n, hn => by
    simp only [DataW.weightsAll, List.mem_append]
    rcases List.mem_cons.1 hd with rfl | h
    · exact .inl hn
    · exact .inr (weights_all h n hn)

theorem open_strs {H : Type} {enc : TypeId × Value → H} {W : World} {fuel : Nat} {v : Value} {x : DataW H × List MemPlace} (h : DataW.trod enc Ybaf.prog W 0 (fun _ => true) true fuel 23 [v] = some x) :
    ∃ a len cap S, v = .slice a len cap ∧ StrsIs W W.heap.size a len S ∧ ∀ i, i < len → (S i).size ∈ x.1.weights Ybaf.prog 23 := by
  rcases open_slice1 Ybaf.underlying23 cells9 h with ⟨hcs, _⟩ | ⟨x, len, cap, m, n, V, D, Pl, hcs, _, hl, _, hm, hxx, hx⟩
  · simp at hcs
    exact ⟨none, 0, 0, fun _ => ByteArray.empty, hcs, .inl rfl, fun i hi => by omega⟩
  · simp at hcs
    subst hcs
    simp only [if_true] at hm
    subst hm
    have hy : ∀ i, i < len → ∃ s : ByteArray, V i = .string s ∧ D i = .lit (.string s.data.toList) := fun i hi => by
      obtain ⟨s, hs, hd, _⟩ := DataW.trod_string Ybaf.underlying9 (hx i (by omega)).2
      exact ⟨s, by simpa using hs, congrArg Prod.fst hd⟩
    obtain ⟨S, hS⟩ := choose_lt hy
    refine ⟨some x, len, m, S, rfl, ?_, fun i hi => ?_⟩
    · by_cases h0 : len = 0
      · exact .inl h0
      · have h00 := (hx 0 (by omega)).1
        have hp := addr_plain h00
        have hlt := World.block_lt_of_cell? W _ h00
        generalize x.block = b at hp hlt
        generalize x.off = o at hp
        subst hp
        simp only [add_plain] at hx hlt
        exact .inr ⟨b, o, hlt, rfl, fun i hi => by rw [(hx i (by omega)).1, (hS i hi).1]⟩
    · rw [hxx]
      simp only [DataW.weights, Ybaf.underlying23, List.mem_cons, List.mem_append]
      refine .inr (.inl (weights_all (d := D i) (List.mem_map.2 ⟨i, List.mem_range.2 hi, rfl⟩) _ ?_))
      rw [(hS i hi).2]
      simp [DataW.weights]

theorem open_bytes {H : Type} {enc : TypeId × Value → H} {W : World} {fuel : Nat} {v : Value} {x : DataW H × List MemPlace} (h : DataW.trod enc Ybaf.prog W 0 (fun _ => true) true fuel 22 [v] = some x) :
    ∃ a len cap pl, v = .slice a len cap ∧ ArgBytes W W.heap.size a len cap pl := by
  rcases open_slice1 Ybaf.underlying22 cells5 h with ⟨hcs, _⟩ | ⟨x, len, cap, m, n, V, D, Pl, hcs, _, hl, _, hm, hxx, hx⟩
  · simp at hcs
    exact ⟨none, 0, 0, [], hcs, rfl, .inl ⟨rfl, rfl, rfl⟩⟩
  · simp at hcs
    subst hcs
    simp only [if_true] at hm
    subst hm
    have hy : ∀ i, i < len → ∃ b : UInt8, V i = .int .u8 b.toNat := fun i hi => by
      obtain ⟨k, hs, _, hw⟩ := DataW.trod_int Ybaf.underlying5 (hx i (by omega)).2
      simp [Lit.wf, IntKind.min, IntKind.max, IntKind.signed, IntKind.bits] at hw
      refine ⟨UInt8.ofNat k.toNat, ?_⟩
      have : ((UInt8.ofNat k.toNat).toNat : Int) = k := by
        rw [UInt8.toNat_ofNat']
        omega
      rw [this]
      simpa using hs
    obtain ⟨S, hS⟩ := choose_lt hy
    refine ⟨some x, len, m, (List.range len).map S, rfl, by simp, .inr ⟨x, rfl, fun h0 => ?_, fun j u hu => ?_⟩⟩
    · have := World.block_lt_of_cell? W _ (hx 0 (by omega)).1
      rwa [add_block] at this
    · have hj : j < len := by have := (List.getElem?_eq_some_iff.1 hu).1; simpa [byteCells] using this
      rw [(hx j (by omega)).1, hS j hj]
      simpa [byteCells, hj] using hu
end Go.Proofs.YbulkrkuFmt
