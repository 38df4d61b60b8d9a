import Derived.Test.YbulkrnmLev
namespace Go.Proofs.Ybulkrnm
open Go.RowKit

set_option maxHeartbeats 400000 in
theorem slot4_any (P G : Nat) (span sh nn due : Int) (w : World) (hP : w.heap[P]? = some (.cells #[.int .i64 span, .int .u64 sh, .int .i64 3, .slice (some ⟨G, 0, none⟩) 4 4, .int .i64 nn] 67 (0, 0))) (h0 : 0 ≤ sh) (h1 : sh ≤ 62) (hd0 : 0 ≤ due) (hd1 : due ≤ 9223372036854775807) :
    Calls Yba.prog 13 #[.pointer (some ⟨P, 0, none⟩), .int .i64 due, .int .i64 4] w fun e w' => (∃ j : Nat, e = .returned (.pointer (some ⟨G, j * 4, none⟩)) ∧ j < 4) ∧ Below w.heap.size w w' := by
  have c0 := cell_at (i := 0) hP rfl
  have c1 := cell_at (i := 1) hP rfl
  have c2 := cell_at (i := 2) hP rfl
  have c3 := cell_at (i := 3) hP rfl
  have hdd : 0 ≤ due / 2 ^ sh.toNat := Int.ediv_nonneg hd0 (Int.le_of_lt (Int.pow_pos (by omega)))
  have hdl : due / 2 ^ sh.toNat ≤ due := Int.ediv_le_self _ hd0
  obtain ⟨j, hj, hj3⟩ : ∃ j : Nat, bits .and .i64 (due / 2 ^ sh.toNat) 3 = (j : Int) ∧ j < 4 := by
    have := bits_mask .i64 63 (by decide) (fun n h0 h1 => wrap64_id n (by omega) (by omega)) 2 (by decide) (due / 2 ^ sh.toNat) hdd (by omega)
    exact ⟨(due / 2 ^ sh.toNat % 4).toNat, by have h2 : bits .and .i64 (due / 2 ^ sh.toNat) 3 = due / 2 ^ sh.toNat % 4 := this
                                              rw [h2]; omega, by omega⟩
  have i0 : (0 : Int) ≤ (j : Int) := Int.natCast_nonneg _
  have i1 : (j : Int) < 4 := by omega
  go_enter Yba.func13, Yba.ntmps13
  go_wp2_with fail
  go_quiet (fail)
  go_wp2
  go_ret
  exact ⟨⟨j, rfl, hj3⟩, ⟨rfl, rfl, rfl, Nat.le_refl _, fun _ _ => rfl⟩⟩

set_option maxHeartbeats 400000 in
theorem slot3_any (P G : Nat) (span sh nn due : Int) (w : World) (hP : w.heap[P]? = some (.cells #[.int .i64 span, .int .u64 sh, .int .i64 0, .slice (some ⟨G, 0, none⟩) 3 3, .int .i64 nn] 67 (0, 0))) (h0 : 1 ≤ span) (hd0 : 0 ≤ due) (hd1 : due ≤ 9223372036854775807) :
    Calls Yba.prog 13 #[.pointer (some ⟨P, 0, none⟩), .int .i64 due, .int .i64 3] w fun e w' => (∃ j : Nat, e = .returned (.pointer (some ⟨G, j * 4, none⟩)) ∧ j < 3) ∧ Below w.heap.size w w' := by
  have c0 := cell_at (i := 0) hP rfl
  have c1 := cell_at (i := 1) hP rfl
  have c2 := cell_at (i := 2) hP rfl
  have c3 := cell_at (i := 3) hP rfl
  have hne : ¬ span = 0 := by omega
  have hdf := (div_facts due span h0).2.1 hd0
  have hqw : IntKind.i64.wrap (due.tdiv span) = due.tdiv span := wrap64_id _ (by omega) (by omega)
  clear hdf
  have hq0 : 0 ≤ due.tdiv span := Int.tdiv_nonneg hd0 (by omega)
  obtain ⟨j, hj, hj3⟩ : ∃ j : Nat, (due.tdiv span).tmod 3 = (j : Int) ∧ j < 3 := by
    have h1 := Int.tmod_nonneg 3 hq0
    have h2 := Int.tmod_lt_of_pos (due.tdiv span) (show (0 : Int) < 3 by omega)
    exact ⟨((due.tdiv span).tmod 3).toNat, by omega, by omega⟩
  have i0 : (0 : Int) ≤ (j : Int) := Int.natCast_nonneg _
  have i1 : (j : Int) < 3 := by omega
  go_enter Yba.func13, Yba.ntmps13
  go_wp2_with fail
  go_quiet (fail)
  go_wp2
  go_ret
  exact ⟨⟨j, rfl, hj3⟩, ⟨rfl, rfl, rfl, Nat.le_refl _, fun _ _ => rfl⟩⟩

/-- all blocks but those are as they were -/
structure SameBut (B : Nat) (ks : List Nat) (w w' : World) : Prop where
  below : Below B w w'
  same : ∀ k, k ∉ ks → k < w.heap.size → w'.heap[k]? = w.heap[k]?
theorem SameBut.cells {B : Nat} {ks : List Nat} {w w' : World} (h : SameBut B ks w w') {k : Nat} {o : Obj} (hk : w.heap[k]? = some o) (h1 : k ∉ ks) : w'.heap[k]? = some o := (h.same k h1 (lt_of_block hk)).trans hk
theorem SameBut.trans {B : Nat} {ks ls ms : List Nat} {a b c : World} (h : SameBut B ks a b) (h' : SameBut B ls b c) (hm : ∀ k, k ∉ ms → k < a.heap.size → k ∉ ks ∧ k ∉ ls) : SameBut B ms a c :=
  ⟨h.below.trans h'.below, fun k hk hl => (h'.same k (hm k hk hl).2 (Nat.lt_of_lt_of_le hl h.below.size)).trans (h.same k (hm k hk hl).1 hl)⟩
theorem SameBut.refl (B : Nat) (w : World) : SameBut B [] w w := ⟨Below.refl _ _, fun _ _ _ => rfl⟩
theorem SameBut.set {B : Nat} {ks : List Nat} {w w' : World} (h : SameBut B ks w w') {p : Addr} (hp : B ≤ p.block) (hk : p.block ∈ ks) (u : Value) : SameBut B ks w (w'.setCell p u) :=
  ⟨h.below.setCell hp u, fun k h1 h2 => by rw [Below.heap_setCell _ _ _ _ (fun (e : k = p.block) => h1 (by rw [e]; exact hk))]; exact h.same k h1 h2⟩
theorem SameBut.alloc {B : Nat} {ks : List Nat} {w w' : World} (h : SameBut B ks w w') (hB : B ≤ w'.heap.size) (o : Obj) : SameBut B ks w (w'.alloc o) :=
  ⟨h.below.alloc hB o, fun k h1 h2 => by rw [Below.heap_alloc _ _ _ (Nat.lt_of_lt_of_le h2 h.below.size)]; exact h.same k h1 h2⟩
theorem SameBut.drew {B : Nat} {ks : List Nat} {w w' : World} (h : SameBut B ks w w') : SameBut B ks w w'.drew := ⟨h.below.drew, h.same⟩
theorem SameBut.drewN {B : Nat} {ks : List Nat} {w w' : World} (h : SameBut B ks w w') (n : Nat) : SameBut B ks w (w'.drewN n) := ⟨⟨h.below.os, h.below.tape, h.below.output, h.below.size, h.below.block⟩, h.same⟩
theorem SameBut.mono {B : Nat} {ks ls : List Nat} {w w' : World} (h : SameBut B ks w w') (hl : ∀ k, k ∈ ks → k ∈ ls) : SameBut B ls w w' := ⟨h.below, fun k h1 h2 => h.same k (fun e => h1 (hl k e)) h2⟩

def BackPost (B G T : Nat) (o : Nat) (gs ts : Array Value) (w : World) (e : Ending) (w' : World) : Prop :=
  e = .returned (.tuple #[]) ∧ w'.heap[G]? = some (.cells ((gs.setIfInBounds (o + 1) (.pointer (some ⟨T, 0, none⟩))).setIfInBounds (o + 2) (.pointer (some ⟨T, 0, none⟩))) 64 (0, 0)) ∧
  w'.heap[T]? = some (.cells ts 32 (0, 0)) ∧ SameBut B [G, T] w w'

set_option maxHeartbeats 400000 in
theorem back_any (B G T o W : Nat) (due : Int) (fv gp : Value) (gs : Array Value) (w : World) (hG : w.heap[G]? = some (.cells gs 64 (0, 0))) (h1 : gs[o + 1]? = some (.pointer none)) (h2 : gs[o + 2]? = some (.pointer none))
    (hT : w.heap[T]? = some (.cells #[.pointer (some ⟨W, 0, none⟩), fv, .int .i64 due, .pointer none, .pointer none, .pointer none, gp] 32 (0, 0))) (hBG : B ≤ G) (hBT : B ≤ T) :
    Calls Yba.prog 18 #[.pointer (some ⟨G, o + 1, none⟩), .pointer (some ⟨T, 0, none⟩)] w fun e w' => BackPost B G T o gs #[.pointer (some ⟨W, 0, none⟩), fv, .int .i64 due, .pointer none, .pointer none, .pointer none, gp] w e w' := by
  have g1 := cell_at (i := o + 1) hG h1
  have g2 := cell_at (i := o + 2) hG h2
  have t4 := cell_at (i := 4) hT rfl
  have t5 := cell_at (i := 5) hT rfl
  have f1 := free_at (i := o + 1) hG
  have f2 := free_at (i := o + 2) hG
  have f4 := free_at (i := 4) hT
  have f5 := free_at (i := 5) hT
  have hGT : ¬ G = T := fun e => by subst e; rw [hG] at hT; simp at hT
  have hTG : ¬ T = G := fun e => hGT e.symm
  have hm : ∀ w : World, (method 212 26 (.pointer (some ⟨T, 0, none⟩)) "example.com/verdandi/verdandi.links").run Yba.prog w = .ok (36, .pointer (some ⟨T, 0, none⟩)) w := fun _ => by kernel_rfl
  go_enter Yba.func18, Yba.ntmps18
  go_wp2
  go_end0
  have hT1 := block_set (i := 4) hT (.pointer none)
  have hT2 := block_set (i := 5) hT1 (.pointer none)
  simp at hT2
  have hG2 := block_other (block_other hG (a := ⟨T, 4, none⟩) hGT (.pointer none)) (a := ⟨T, 5, none⟩) hGT (.pointer none)
  have hT3 := block_other hT2 (a := ⟨G, o + 1, none⟩) hTG (.pointer (some ⟨T, 0, none⟩))
  have hG3 := block_set (i := o + 1) hG2 (.pointer (some ⟨T, 0, none⟩))
  refine ⟨rfl, block_set (i := o + 1 + 1) hG3 _, block_other hT3 (a := ⟨G, o + 1 + 1, none⟩) hTG _, ?_⟩
  exact (((((SameBut.refl B w).mono (by simp)).set (p := ⟨T, 4, none⟩) hBT (by simp) _).set (p := ⟨T, 5, none⟩) hBT (by simp) _).set (p := ⟨G, o + 1, none⟩) hBG (by simp) _).set (p := ⟨G, o + 1 + 1, none⟩) hBG (by simp) _

def PushPost (B G T P o W : Nat) (due span sh mask : Int) (fv sv gp : Value) (gs : Array Value) (w : World) (e : Ending) (w' : World) : Prop :=
  e = .returned (.tuple #[]) ∧ w'.heap[G]? = some (.cells ((gs.setIfInBounds (o + 1) (.pointer (some ⟨T, 0, none⟩))).setIfInBounds (o + 2) (.pointer (some ⟨T, 0, none⟩))) 64 (0, 0)) ∧
  w'.heap[T]? = some (.cells #[.pointer (some ⟨W, 0, none⟩), fv, .int .i64 due, .pointer (some ⟨G, o, none⟩), .pointer none, .pointer none, gp] 32 (0, 0)) ∧
  w'.heap[P]? = some (.cells #[.int .i64 span, .int .u64 sh, .int .i64 mask, sv, .int .i64 1] 67 (0, 0)) ∧ SameBut B [G, T, P] w w'

set_option maxHeartbeats 400000 in
theorem push_any (B G T P o W : Nat) (due span sh mask : Int) (fv sv gp : Value) (gs : Array Value) (w : World) (hG : w.heap[G]? = some (.cells gs 64 (0, 0))) (h0 : gs[o]? = some (.pointer (some ⟨P, 0, none⟩))) (h1 : gs[o + 1]? = some (.pointer none)) (h2 : gs[o + 2]? = some (.pointer none))
    (hT : w.heap[T]? = some (.cells #[.pointer (some ⟨W, 0, none⟩), fv, .int .i64 due, .pointer none, .pointer none, .pointer none, gp] 32 (0, 0)))
    (hP : w.heap[P]? = some (.cells #[.int .i64 span, .int .u64 sh, .int .i64 mask, sv, .int .i64 0] 67 (0, 0))) (hBG : B ≤ G) (hBT : B ≤ T) (hBP : B ≤ P) :
    Calls Yba.prog 14 #[.pointer (some ⟨G, o, none⟩), .pointer (some ⟨T, 0, none⟩)] w fun e w' => PushPost B G T P o W due span sh mask fv sv gp gs w e w' := by
  have hGT : ¬ G = T := fun e => by subst e; rw [hG] at hT; simp at hT
  have hPG : ¬ P = G := fun e => by subst e; rw [hG] at hP; simp at hP
  have hPT : ¬ P = T := fun e => by subst e; rw [hT] at hP; simp at hP
  have hTP : ¬ T = P := fun e => hPT e.symm
  have hGP : ¬ G = P := fun e => hPG e.symm
  go_enter Yba.func14, Yba.ntmps14
  go_wp2_with fail
  refine (back_any B G T o W due fv gp gs w hG h1 h2 hT hBG hBT).mono ?_
  rintro e w1 ⟨rfl, hG1, hT1, hS1⟩
  have hP1 := hS1.cells hP (by simp [hPG, hPT])
  have t3 := cell_at (i := 3) hT1 rfl
  have f3 := free_at (i := 3) hT1
  have p4 := cell_at (i := 4) hP1 rfl
  have f4 := free_at (i := 4) hP1
  have g0 := cell_at (i := o) hG1 (v := .pointer (some ⟨P, 0, none⟩)) (by simp [h0])
  go_wp2
  go_end0
  have hT2 := block_set (i := 3) hT1 (.pointer (some ⟨G, o, none⟩))
  simp at hT2
  have hP2 := block_set (i := 4) (block_other hP1 (a := ⟨T, 3, none⟩) hPT (.pointer (some ⟨G, o, none⟩))) (.int .i64 1)
  simp at hP2
  refine ⟨rfl, block_other (block_other hG1 (a := ⟨T, 3, none⟩) hGT _) (a := ⟨P, 4, none⟩) hGP _, block_other hT2 (a := ⟨P, 4, none⟩) hTP _, hP2, ?_⟩
  exact ((hS1.mono (by simp)).set (p := ⟨T, 3, none⟩) hBT (by simp) _).set (p := ⟨P, 4, none⟩) hBP (by simp) _
end Go.Proofs.Ybulkrnm
