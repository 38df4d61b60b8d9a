import Derived.Test.YbulkrnmPlaced
namespace Go.Proofs.Ybulkrnm
open Go.RowKit

def Two (sz sh : Int) : Prop := (sz = 4 ∧ sh = 2) ∨ (sz = 3 ∧ sh = 0)
theorem ins_any (B W T : Nat) (tk sz sh cur due : Int) (fv gp : Value) (w : World) (hs : Two sz sh) (hW : w.heap[W]? = some (.cells (wheel tk sz sh cur (.slice none 0 0) false) 51 (0, 0)))
    (hT : w.heap[T]? = some (.cells (timer W fv due (.pointer none) gp) 32 (0, 0))) (hc0 : 0 ≤ cur) (hc1 : cur ≤ 4294967295) (hd1 : due ≤ 9223372036854775807) (hBW : B ≤ W) (hBT : B ≤ T) (hB : B ≤ w.heap.size) :
    Calls Yba.prog 9 #[.pointer (some ⟨W, 0, none⟩), .pointer (some ⟨T, 0, none⟩)] w fun e w' => InsPost B W T tk sz sh cur due fv gp w e w' := by
  rcases hs with ⟨rfl, rfl⟩ | ⟨rfl, rfl⟩
  · exact ins4_any B W T tk cur due fv gp w hW hT hc0 hc1 hd1 hBW hBT hB
  · exact ins3_any B W T tk cur due fv gp w hW hT hc0 hc1 hd1 hBW hBT hB

def WheelPost (tk cur : Int) (st : Bool) (w : World) (e : Ending) (w' : World) : Prop :=
  e = .returned (.pointer (some ⟨w.heap.size, 0, none⟩)) ∧ (∃ sz sh, Two sz sh ∧ w'.heap[w.heap.size]? = some (.cells (wheel (tk + 1) sz sh cur (.slice none 0 0) st) 51 (0, 0))) ∧ Below w.heap.size w w'

set_option maxRecDepth 100000 in
set_option maxHeartbeats 400000 in
theorem wheel_any (sel tk cur : Int) (st : Bool) (w : World) (h0 : 0 ≤ sel) (h1 : sel ≤ 255) (ht0 : 0 ≤ tk) (ht1 : tk ≤ 65535) (hc0 : 0 ≤ cur) (hc1 : cur ≤ 4294967295) :
    Calls Yba.prog 5 #[.int .u8 sel, .int .u16 tk, .int .u32 cur, .bool st] w fun e w' => WheelPost tk cur st w e w' := by
  have hw1 : IntKind.i64.wrap (tk + 1) = tk + 1 := wrap64_id _ (by omega) (by omega)
  have hw2 : IntKind.i64.wrap tk = tk := wrap64_id _ (by omega) (by omega)
  have hw3 : IntKind.i64.wrap cur = cur := wrap64_id _ (by omega) (by omega)
  go_enter Yba.func5, Yba.ntmps5
  go_wp2
  · go_ret
    exact ⟨rfl, ⟨3, 0, .inr ⟨rfl, rfl⟩, block_new _ _⟩, (Below.refl _ _).alloc (Nat.le_refl _) _⟩
  · go_ret
    exact ⟨rfl, ⟨4, 2, .inl ⟨rfl, rfl⟩, block_new _ _⟩, (Below.refl _ _).alloc (Nat.le_refl _) _⟩

/-- what the starting of a timer leaves: in no slot on a wheel that is stopped; else placed -/
def Sched (B W T : Nat) (tk sz sh cur due : Int) (st : Bool) (fv gp : Value) (w w' : World) : Prop :=
  if st then w'.heap[W]? = some (.cells (wheel tk sz sh cur (.slice none 0 0) true) 51 (0, 0)) ∧ w'.heap[T]? = some (.cells (timer W fv due (.pointer none) gp) 32 (0, 0)) ∧ SameBut B [W, T] w w'
  else Placed B W T tk sz sh cur (if due < cur then cur else due) fv gp w w'

theorem Placed.from_ {B W T : Nat} {tk sz sh cur due : Int} {fv gp : Value} {w w1 w' : World} (h : Placed B W T tk sz sh cur due fv gp w1 w') (hs : SameBut B [W, T] w w1) : Placed B W T tk sz sh cur due fv gp w w' :=
  ⟨h.ex, hs.trans h.same (fun _ hk _ => ⟨hk, hk⟩)⟩

set_option maxRecDepth 100000 in
set_option maxHeartbeats 400000 in
theorem sched1_any (B W T : Nat) (tk sz sh cur due0 d now due : Int) (st : Bool) (fv : Value) (w : World) (hs : Two sz sh) (hW : w.heap[W]? = some (.cells (wheel tk sz sh cur (.slice none 0 0) st) 51 (0, 0)))
    (hT : w.heap[T]? = some (.cells (timer W fv due0 (.pointer none) (.pointer none)) 32 (0, 0))) (hc0 : 0 ≤ cur) (hc1 : cur ≤ 4294967295) (hd1 : due ≤ 9223372036854775807) (hBW : B ≤ W) (hBT : B ≤ T) (hB : B ≤ w.heap.size) :
    Calls Yba.prog 6 #[.pointer (some ⟨T, 0, none⟩), .int .i64 d, .agg #[.int .i64 now, .int .i64 0, .int .i64 due]] w fun e w' => e = .returned (.tuple #[]) ∧ Sched B W T tk sz sh cur due st fv (.pointer none) w w' := by
  have hWT : ¬ W = T := fun e => by subst e; rw [hW] at hT; simp at hT
  have hTA := block_old hT (.cells #[.int .i64 now, .int .i64 0, .int .i64 due] 36)
  have hWA := block_old hW (.cells #[.int .i64 now, .int .i64 0, .int .i64 due] 36)
  have hSA : SameBut B [W, T] w (w.alloc (.cells #[.int .i64 now, .int .i64 0, .int .i64 due] 36)) := ((SameBut.refl B w).mono (by simp)).alloc hB _
  have t0 : (w.alloc (.cells #[.int .i64 now, .int .i64 0, .int .i64 due] 36)).cell? ⟨T, 0, none⟩ = some (.pointer (some ⟨W, 0, none⟩)) := cell_at (i := 0) hTA rfl
  have t2 : (w.alloc (.cells #[.int .i64 now, .int .i64 0, .int .i64 due] 36)).cell? ⟨T, 2, none⟩ = some (.int .i64 due0) := cell_at (i := 2) hTA rfl
  have t6 : (w.alloc (.cells #[.int .i64 now, .int .i64 0, .int .i64 due] 36)).cell? ⟨T, 6, none⟩ = some (.pointer none) := cell_at (i := 6) hTA rfl
  have f2 := free_at (i := 2) hTA
  go_enter Yba.func6, Yba.ntmps6
  go_wp2_with fail
  have hW1 : ((w.alloc (.cells #[.int .i64 now, .int .i64 0, .int .i64 due] 36)).setCell ⟨T, 2, none⟩ (.int .i64 due)).heap[W]? = some (.cells (wheel tk sz sh cur (.slice none 0 0) st) 51 (0, 0)) := block_other hWA (a := ⟨T, 2, none⟩) hWT _
  have hT1 : ((w.alloc (.cells #[.int .i64 now, .int .i64 0, .int .i64 due] 36)).setCell ⟨T, 2, none⟩ (.int .i64 due)).heap[T]? = some (.cells (timer W fv due (.pointer none) (.pointer none)) 32 (0, 0)) := block_set (i := 2) hTA (.int .i64 due)
  have hS1 : SameBut B [W, T] w ((w.alloc (.cells #[.int .i64 now, .int .i64 0, .int .i64 due] 36)).setCell ⟨T, 2, none⟩ (.int .i64 due)) := hSA.set (p := ⟨T, 2, none⟩) hBT (by simp) _
  clear hTA hWA hSA t0 t2 t6 f2
  generalize ((w.alloc (.cells #[.int .i64 now, .int .i64 0, .int .i64 due] 36)).setCell ⟨T, 2, none⟩ (.int .i64 due)) = w1 at *
  cases st with
  | true =>
    refine (ins_stopped W T tk sz sh cur _ w1 hW1).mono ?_
    rintro e w2 ⟨rfl, rfl⟩
    go_wp2
    refine bodyPost_ret (v := .tuple #[]) (by simp [results, Yba.results6]) rfl ?_
    exact ⟨rfl, hW1, hT1, hS1⟩
  | false =>
    refine (ins_any B W T tk sz sh cur due fv _ w1 hs hW1 hT1 hc0 hc1 hd1 hBW hBT (Nat.le_trans hB hS1.below.size)).mono ?_
    rintro e w2 ⟨rfl, hp⟩
    go_wp2
    refine bodyPost_ret (v := .tuple #[]) (by simp [results, Yba.results6]) rfl ?_
    exact ⟨rfl, hp.from_ hS1⟩
end Go.Proofs.Ybulkrnm
