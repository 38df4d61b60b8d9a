import Derived.Test.YbulkrkuFmtEnc
namespace Go.Proofs.YbulkrkuFmt
open Go.RowKit

def strVals (n : Nat) (S : Nat → ByteArray) : List Value := (List.range n).map fun i => .string (S i)
theorem strVals_length (n : Nat) (S : Nat → ByteArray) : (strVals n S).length = n := by simp [strVals]
theorem strVals_get {n i : Nat} (S : Nat → ByteArray) (h : i < n) : (strVals n S)[i]? = some (.string (S i)) := by simp [strVals, h]
theorem strVals_one (n : Nat) (S : Nat → ByteArray) : ∀ v ∈ strVals n S, v.oneCell' = true := by
  intro v hv
  simp only [strVals, List.mem_map] at hv
  obtain ⟨i, _, rfl⟩ := hv
  rfl

/-- a row that is full: the block, whole -/
theorem own_full {w : World} {base : Nat} {e : TypeId} {g n : Nat} {xs : List Value} (h : w.ownsRow base e 1 (.slice (some ⟨g, 0, none⟩) n n) n xs) : w.heap[g]? = some (.cells xs.toArray e (0, 0)) := by
  rcases h.2 with ⟨h', _⟩ | ⟨g', cap, cur, h', _, hg, _, _, hcs, htk⟩
  · simp at h'
  · simp only [Value.slice.injEq, Option.some.injEq, Addr.mk.injEq, and_true, true_and] at h'
    obtain ⟨rfl, rfl⟩ := h'
    rw [hg, ← htk, List.take_of_length_le (by simp [hcs])]

/-- the strings of a block, as they lie -/
theorem strsIs_of_block {w : World} {g n : Nat} {S : Nat → ByteArray} {t : TypeId} {fr : Nat × Nat} (h : w.heap[g]? = some (.cells (strVals n S).toArray t fr)) (B : Nat) (hB : g < B) : StrsIs w B (some ⟨g, 0, none⟩) n S :=
  .inr ⟨g, 0, hB, rfl, fun i hi => by rw [Nat.zero_add]; exact cell_at h (by simpa using strVals_get S hi)⟩

theorem copied {w w1 : World} {x0 : Addr} {n xc B : Nat} {S : Nat → ByteArray} {xs : List Value} (hB : B ≤ w.heap.size) (hS : StrsIs w B (some x0) n S) (hown : w1.ownsRow w.heap.size 9 1 (.slice (some ⟨w.heap.size, 0, none⟩) n n) n xs) (hg : w.grownBy w1 none) :
    ∃ w2, (Builtin.copy_ #[23, 23] 3 #[.slice (some ⟨w.heap.size, 0, none⟩) n n, .slice (some x0) n xc]).run Ybaf.prog w1 = .ok (goInt n) w2 ∧ w2.heap[w.heap.size]? = some (.cells (strVals n S).toArray 9 (0, 0)) ∧ Below w.heap.size w w2 := by
  have hfull := own_full hown
  have hbel1 : Below w.heap.size w w1 := (Below.refl _ _).grown hg (Nat.le_refl _) (fun k hk => by cases hk)
  have hxl : xs.length = n := by simpa using hown.1
  have hrun := run_copy_row (P := Ybaf.prog) w1 23 23 3 9 w.heap.size 0 n n x0 n xc xs.toArray 9 (strVals n S) Ybaf.underlying23 size9 hfull (by rw [strVals_length]; simp) (fun j v hv => by
      have hj : j < n := by have := (List.getElem?_eq_some_iff.1 hv).1; rwa [strVals_length] at this
      rw [strVals_get S hj] at hv
      cases hv
      rcases (hS.below (hbel1.mono hB)) with h0 | ⟨b, off, _, hx, hc⟩
      · omega
      · obtain rfl := Option.some.inj hx
        rw [add_plain]
        exact hc j hj) (by rw [strVals_length]; simp [hxl]) (strVals_one n S)
  rw [strVals_length] at hrun
  refine ⟨_, hrun, ?_, below_setRow hbel1 (Nat.le_refl _) _⟩
  rw [setRow_heap w1 w.heap.size _ _ 9 _ hfull]
  simp [hxl]

def CopyPost (xa : Option Addr) (n : Nat) (S : Nat → ByteArray) (w : World) (e : Ending) (w' : World) : Prop :=
  (xa = none ∧ n = 0 ∧ e = .returned (.slice none 0 0) ∧ w = w') ∨ (xa.isNone = false ∧ e = .returned (.slice (some ⟨w.heap.size, 0, none⟩) n n) ∧ w'.heap[w.heap.size]? = some (.cells (strVals n S).toArray 9 (0, 0)) ∧ Below w.heap.size w w')

set_option maxHeartbeats 400000 in
theorem copy_any (xa : Option Addr) (n xc B : Nat) (S : Nat → ByteArray) (w : World) (hn : n ≤ 1024) (hB : B ≤ w.heap.size) (hS : StrsIs w B xa n S) :
    Calls Ybaf.prog 7 #[.slice xa n xc] w fun e w' => CopyPost xa n S w e w' := by
  obtain ⟨i9, hi, hz0, hz1, hz2⟩ := info_parts info9
  have e1 := fun w' => Lib.run_eql_slice_nil (P := Ybaf.prog) w' 23 9 xa n xc 0 0 Ybaf.underlying23
  cases hx : xa with
  | none =>
    subst hx
    obtain rfl : n = 0 := by
      rcases hS with h | ⟨b, off, _, h, _⟩
      · exact h
      · cases h
    simp only [Option.isNone_none] at e1
    go_enter Ybaf.func7, Ybaf.ntmps7
    go_wp2
    go_ret
    exact .inl ⟨rfl, rfl, rfl, rfl⟩
  | some x0 =>
    subst hx
    simp only [Option.isNone_some] at e1
    go_enter Ybaf.func7, Ybaf.ntmps7
    go_wp2_with (at_make; go_must (refine wpList_make_full _ rfl _ _ 23 rfl w.heap.size 9 i9 _ 1 Ybaf.underlying23 hi hz0 hz1 .i64 .i64 _ _ n rfl rfl (by simp) (by simp) (by rw [hz2]; omega) (by unfold maxLen; omega) (Nat.le_refl _) ?_; intro w1 hown hg; obtain ⟨w2, hrun, hh2, hb2⟩ := copied (xc := xc) hB hS hown hg))
    go_ret
    exact .inr ⟨rfl, rfl, hh2, hb2⟩
end Go.Proofs.YbulkrkuFmt
