import Derived.Test.YbulkrqeArg
import Derived.Lib.SliceRun
import Derived.Deep.QuietTactic
import Derived.BigQuiet
import Derived.BigRegion
namespace Go.Proofs.Ybulkrqe
open Go.RowKit


theorem at_byte {w : World} {base g cap : Nat} {l : List UInt8} (h : BufO w base (.slice (some ⟨g, 0, none⟩) l.length cap) l) {k : Nat} {b : UInt8} (hk : l[k]? = some b) : w.cell? ⟨g, k, none⟩ = some (.int .u8 b.toNat) := by
  have := World.ownsRow.cells h (g := g) rfl k (.int .u8 b.toNat) (by simp [byteCells, hk])
  rwa [add_plain, Nat.zero_add] at this
theorem part_str {w : World} {base g cap : Nat} {pre mid suf : List UInt8} (h : BufO w base (.slice (some ⟨g, 0, none⟩) (pre ++ (mid ++ suf)).length cap) (pre ++ (mid ++ suf))) (c : Nat) : (convert 22 9 (.slice (some ⟨g, pre.length, none⟩) mid.length c)).run Yba.prog w = .ok (.string ⟨mid.toArray⟩) w := by
  refine run_convert_bytes_back w 22 9 5 ⟨g, pre.length, none⟩ c mid Yba.underlying22 Yba.underlying5 Yba.underlying9 fun j hj => ?_
  rw [add_plain]
  refine at_byte h ?_
  rw [List.getElem?_append_right (by omega), show pre.length + j - pre.length = j by omega, List.getElem?_append_left hj, List.getElem?_eq_getElem hj]

set_option maxHeartbeats 400000 in
theorem rep_nil (C g i n cap : Nat) (w : World) (hC : w.heap[C]? = some (.cells #[.slice (some ⟨g, 0, none⟩) n cap, .int .i64 i] 28 (0, 0))) (hi : i ≤ n) (hic : i < cap) :
    Calls Yba.prog 6 #[.pointer (some ⟨C, 0, none⟩), .slice none 0 0] w fun e w' => e = .returned (.bool false) ∧ ∃ m, w' = w.drewN m := by
  have c0 := cell_at (i := 0) hC rfl
  have c1 := cell_at (i := 1) hC rfl
  have e1 := fun w' => Lib.run_eql_slice_nil (P := Yba.prog) w' 22 5 none 0 0 0 0 Yba.underlying22
  simp only [Option.isNone_none] at e1
  have hne : ¬ cap = i := by omega
  go_enter Yba.func6, Yba.ntmps6
  go_wp2_with fail
  go_quiet (fail)
  go_wp2_with fail
  go_quiet (fail)
  go_wp2
  go_ret
  exact ⟨rfl, _, show _ = w.drewN (_ + _) by simp [World.drewN, Nat.add_assoc]; rfl⟩

def RepPost (w : World) (C k : Nat) (e : Ending) (w' : World) : Prop := e = .returned (.bool true) ∧ w'.cell? ⟨C, 1, none⟩ = some (.int .i64 k) ∧ Below C w w'
theorem repPost_of {w w' : World} {C k : Nat} {x : Int} {bv : Value} (h : w'.heap = w.heap) (h1 : w'.os = w.os) (h2 : w'.tape = w.tape) (h3 : w'.output = w.output) (hC : w.heap[C]? = some (.cells #[bv, .int .i64 x] 28 (0, 0))) (y : Int) (hy : y = k) : RepPost w C k (.returned (.bool true)) (w'.setCell ⟨C, 1, none⟩ (.int .i64 y)) := by
  subst hy
  have hC' : w'.heap[C]? = some (.cells #[bv, .int .i64 x] 28 (0, 0)) := by rw [h]; exact hC
  refine ⟨rfl, cell_at (block_set hC' _) (by simp), ?_⟩
  exact (Below.trans ⟨h1, h2, h3, by rw [h]; exact Nat.le_refl _, fun k _ => by rw [h]⟩ (Below.refl _ _)).setCell (p := ⟨C, 1, none⟩) (Nat.le_refl _) _

set_option maxHeartbeats 400000 in
theorem rep_hit (C g cap lcap base base' : Nat) (la : Addr) (pre mid suf : List UInt8) (w : World)
    (hC : w.heap[C]? = some (.cells #[.slice (some ⟨g, 0, none⟩) (pre ++ (34 :: (mid ++ (34 :: suf)))).length cap, .int .i64 pre.length] 28 (0, 0)))
    (hb : BufO w base (.slice (some ⟨g, 0, none⟩) (pre ++ (34 :: (mid ++ (34 :: suf)))).length cap) (pre ++ (34 :: (mid ++ (34 :: suf)))))
    (hl : BufO w base' (.slice (some la) mid.length lcap) mid) (hcap : (pre ++ (34 :: (mid ++ (34 :: suf)))).length ≤ cap) (hlen : (pre ++ (34 :: (mid ++ (34 :: suf)))).length ≤ 10000) :
    Calls Yba.prog 6 #[.pointer (some ⟨C, 0, none⟩), .slice (some la) mid.length lcap] w fun e w' => RepPost w C (pre.length + mid.length + 2) e w' := by
  have c0 := cell_at (i := 0) hC rfl
  have c1 := cell_at (i := 1) hC rfl
  have f1 := free_at (i := 1) hC
  have e1 := fun w' => Lib.run_eql_slice_nil (P := Yba.prog) w' 22 5 (some la) mid.length lcap 0 0 Yba.underlying22
  simp only [Option.isNone_some] at e1
  have b0 := at_byte hb (k := pre.length) (b := 34) (by simp)
  have b1 := at_byte hb (k := pre.length + (mid.length + 1)) (b := 34) (by simp)
  have hb' : ∀ m, BufO (w.drewN m) base (.slice (some ⟨g, 0, none⟩) (pre ++ (34 :: (mid ++ (34 :: suf)))).length cap) (pre ++ (34 :: (mid ++ (34 :: suf)))) := fun _ => hb
  have s1 := fun m => part_str (pre := pre ++ [34]) (mid := mid) (suf := 34 :: suf) (w := w.drewN m) (base := base) (g := g) (cap := cap) (by simpa using hb' m) (cap - pre.length - 1)
  have s2 := fun m => BufO.str (w := w.drewN m) hl
  have hfull : (pre ++ (34 :: (mid ++ (34 :: suf)))).length = pre.length + (mid.length + suf.length + 2) := by simp; omega
  simp only [List.length_append] at s1
  simp only [List.length_cons, List.length_nil] at s1
  rw [hfull] at hC hb c0 hcap hlen
  generalize pre.length = i at *
  generalize mid.length = n at *
  generalize suf.length = m at *
  have hne : ¬ cap = i := by omega
  have w2 : IntKind.i64.wrap ((n : Int) + 2) = (n : Int) + 2 := by simp [IntKind.wrap, IntKind.bits, IntKind.signed]; omega
  have w1 : IntKind.i64.wrap ((n : Int) + 1) = (n : Int) + 1 := by simp [IntKind.wrap, IntKind.bits, IntKind.signed]; omega
  have t1 : decide ((n : Int) + (m : Int) < (n : Int)) = false := by simp; omega
  go_enter Yba.func6, Yba.ntmps6
  go_wp2_with fail
  go_quiet (fail)
  go_wp2_with fail
  go_quiet (fail)
  go_wp2
  go_ret
  refine repPost_of (w := w) (w' := w.drewN _) rfl rfl rfl rfl hC _ ?_
  omega
end Go.Proofs.Ybulkrqe
