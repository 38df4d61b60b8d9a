import Derived.Test.YbulkrkuBLaw
import Derived.Deep.Slices
import Derived.Deep.Grids
import Derived.ProofKit
namespace Go.Proofs.Ybulkrku
open Go.RowKit Go.Deep

theorem trod_float {H : Type} {enc : TypeId × Value → H} {P : Program} {w : World} {base : Nat} {spare : Nat → Bool} {held : Bool} {fuel : Nat} {t : TypeId} {cs : List Value} {x : DataW H × List MemPlace} {k : FloatKind}
    (ht : P.underlying t = some (.float k)) (h : DataW.trod enc P w base spare held fuel t cs = some x) : ∃ b, cs = [.float k b] := by
  cases fuel with
  | zero => simp [DataW.trod] at h
  | succ n =>
    unfold DataW.trod at h
    rw [ht] at h
    split at h <;> simp_all

theorem addr_plain {w : World} {a : Addr} {j : Nat} {v : Value} (h : w.cell? (a.add j) = some v) (hj : j = 0) : a = ⟨a.block, a.off, none⟩ := by
  subst hj
  have := World.cell?_spot h
  simp [Addr.add] at this
  cases a; simp_all

theorem add_plain (b o j : Nat) : (⟨b, o, none⟩ : Addr).add j = ⟨b, o + j, none⟩ := by
  unfold Addr.add; split <;> simp_all

theorem cells34 : Yba.prog.cellsOf 34 = 4 := by kernel_rfl
theorem cells4 : Yba.prog.cellsOf 4 = 1 := by kernel_rfl
theorem cells3 : Yba.prog.cellsOf 3 = 1 := by kernel_rfl
theorem cells32 : Yba.prog.cellsOf 32 = 1 := by kernel_rfl

theorem four {α : Type} {l : List α} (h : l.length = 4) : ∃ a b c d, l = [a, b, c, d] := by
  match l, h with
  | [a, b, c, d], _ => exact ⟨a, b, c, d, rfl⟩

theorem open_step {H : Type} {enc : TypeId × Value → H} {W : World} {n : Nat} {cs : List Value} {x : DataW H × List MemPlace} (h : DataW.trod enc Yba.prog W 0 (fun _ => true) true n 34 cs = some x) :
    ∃ d f u m, cs = [.int .i64 d, .float .f64 f, .bool u, .bool m] := by
  obtain ⟨xs, k, _, _, hl, hxl, hf⟩ := DataW.trod_struct Yba.underlying34 h
  rw [cells34] at hl
  obtain ⟨a, b, c, d, rfl⟩ := four hl
  obtain ⟨x0, x1, x2, x3, rfl⟩ := four (show xs.length = 4 from hxl)
  have f0 := hf 0 _ rfl
  have f1 := hf 1 _ rfl
  have f2 := hf 2 _ rfl
  have f3 := hf 3 _ rfl
  simp [cells3] at f0
  simp [cells32] at f1
  simp [cells4] at f2 f3
  obtain ⟨d', e0, _⟩ := DataW.trod_int Yba.underlying3 f0
  obtain ⟨f', e1⟩ := trod_float Yba.underlying32 f1
  obtain ⟨u', e2, _⟩ := DataW.trod_bool Yba.underlying4 f2
  obtain ⟨m', e3, _⟩ := DataW.trod_bool Yba.underlying4 f3
  simp at e0 e1 e2 e3
  exact ⟨d', f', u', m', by rw [e0, e1, e2, e3]⟩

theorem open_path {H : Type} {enc : TypeId × Value → H} {W : World} {a : Option Addr} {len cap : Nat} {d : DataW H} {p : List MemPlace} (h : DataW.Trod enc Yba.prog W 0 (fun _ => true) true 22 (.slice a len cap) d p) :
    ∃ D F U M, PathIs W W.heap.size a len D F U M := by
  obtain ⟨fuel, hf⟩ := h
  rcases open_slice Yba.underlying22 hf with ⟨hcs, _⟩ | ⟨x, l, c, m, n, D, Pl, hcs, _, hl, _, hm, _, hx⟩
  · simp [Value.cells] at hcs
    obtain ⟨_, rfl, _⟩ := hcs
    exact ⟨fun _ => 0, fun _ => 0, fun _ => false, fun _ => false, .inl rfl⟩
  · simp [Value.cells] at hcs
    obtain ⟨rfl, rfl, rfl⟩ := hcs
    simp only [if_true] at hm
    subst hm
    have hy : ∀ i, i < len → ∃ q : Int × Nat × Bool × Bool, W.cell? (x.add (i * 4)) = some (.int .i64 q.1) ∧ W.cell? (x.add (i * 4 + 1)) = some (.float .f64 q.2.1) ∧ W.cell? (x.add (i * 4 + 2)) = some (.bool q.2.2.1) ∧ W.cell? (x.add (i * 4 + 3)) = some (.bool q.2.2.2) := by
      intro i hi
      obtain ⟨cs', h1, h2⟩ := hx i (by omega)
      obtain ⟨d, f, u, m, rfl⟩ := open_step h2
      rw [cells34] at h1
      obtain ⟨_, _, h3⟩ := World.cells?_some h1
      have g0 := h3 0 (by omega)
      have g1 := h3 1 (by omega)
      have g2 := h3 2 (by omega)
      have g3 := h3 3 (by omega)
      rw [add_add] at g0 g1 g2 g3
      exact ⟨(d, f, u, m), g0, g1, g2, g3⟩
    obtain ⟨q, hq⟩ := choose_lt hy
    refine ⟨fun i => (q i).1, fun i => (q i).2.1, fun i => (q i).2.2.1, fun i => (q i).2.2.2, ?_⟩
    by_cases h0 : len = 0
    · exact .inl h0
    · have hp := addr_plain (hq 0 (by omega)).1 (by omega)
      have hlt := World.block_lt_of_cell? W _ (hq 0 (by omega)).1
      generalize x.block = b at hp hlt
      generalize x.off = o at hp
      subst hp
      simp only [add_plain] at hq hlt
      exact .inr ⟨b, o, hlt, rfl, fun i hi => by simpa only [Nat.add_assoc] using hq i hi⟩

theorem open_ans {H : Type} {enc : TypeId × Value → H} {W : World} {a : Option Addr} {len cap : Nat} {d : DataW H} {p : List MemPlace} (h : DataW.Trod enc Yba.prog W 0 (fun _ => true) true 23 (.slice a len cap) d p) :
    ∃ g, AnsIs W W.heap.size a len g := by
  obtain ⟨fuel, hf⟩ := h
  rcases open_bools Yba.underlying23 Yba.underlying4 cells4 hf with ⟨hcs, _⟩ | ⟨x, l, c, B, hcs, _, hl, _, _, hx⟩
  · simp [Value.cells] at hcs
    obtain ⟨_, rfl, _⟩ := hcs
    exact ⟨fun _ => false, .inl rfl⟩
  · simp [Value.cells] at hcs
    obtain ⟨rfl, rfl, rfl⟩ := hcs
    refine ⟨B, ?_⟩
    by_cases h0 : len = 0
    · exact .inl h0
    · have hp := addr_plain (hx 0 (by omega)) rfl
      have hlt := World.block_lt_of_cell? W _ (hx 0 (by omega))
      generalize x.block = b at hp hlt
      generalize x.off = o at hp
      subst hp
      simp only [add_plain] at hx hlt
      exact .inr ⟨b, o, hlt, rfl, fun i hi => hx i (by omega)⟩
end Go.Proofs.Ybulkrku
