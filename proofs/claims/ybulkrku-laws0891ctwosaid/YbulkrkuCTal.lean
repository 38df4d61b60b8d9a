import Derived.Test.YbulkrkuRows
import Derived.Test.YbulkrkuMap
import Derived.Test.YbulkrkuChild
namespace Go.Proofs.Ybulkrku
open Go.RowKit Go.WideMaps

theorem zero47 (w : World) : (zeroValue 47).run Yba.prog w = .ok (.string ⟨#[]⟩) w := by kernel_rfl
theorem zero4 (w : World) : (zeroValue 4).run Yba.prog w = .ok (.bool false) w := by kernel_rfl

/-- the tally's four maps, and its block -/
structure Tal (w : World) (T o c er rc N : Nat) (fo fc fr : ByteArray → Option Value) (so sc sr : Nat) (dp ms du : Int) (pa : Bool) : Prop where
  blk : w.heap[T]? = some (.cells #[.map (some o), .map (some c), .map (some er), .int .i64 dp, .int .i64 ms, .int .i64 du, .map (some rc), .int .i64 0, .bool pa] 45 (0, 0))
  owed : MapIs Yba.prog 49 47 w o N fo so
  came : MapIs Yba.prog 49 47 w c N fc sc
  erly : MapIs Yba.prog 49 47 w er N (fun _ => none) 0
  rchd : MapIs Yba.prog 47 4 w rc N fr sr
  oc : o ≠ c
  oe : o ≠ er
  or : o ≠ rc
  ce : c ≠ er
  cr : c ≠ rc
  ers : er ≠ rc

def emp : ByteArray := ⟨#[]⟩
def noneAt : ByteArray → Option Value := fun _ => none

theorem tal_made {w w3 : World} {f : ByteArray → Option Value} {n : Nat} (hm : MapIs Yba.prog 49 47 w3 (w.heap.size + 1) 1 f n) (hs : w3.heap.size = w.heap.size + 1 + 1) (hb : Below w.heap.size w w3) :
    MapIs Yba.prog 49 47 (((w3.alloc (.map #[] 0)).alloc (.map #[] 0)).alloc (.map #[] 0)) (w.heap.size + 1) 1 f n ∧ MapIs Yba.prog 49 47 (((w3.alloc (.map #[] 0)).alloc (.map #[] 0)).alloc (.map #[] 0)) (w.heap.size + 1 + 1) 1 noneAt 0 ∧
    MapIs Yba.prog 49 47 (((w3.alloc (.map #[] 0)).alloc (.map #[] 0)).alloc (.map #[] 0)) (w.heap.size + 1 + 1 + 1) 1 (fun _ => none) 0 ∧ MapIs Yba.prog 47 4 (((w3.alloc (.map #[] 0)).alloc (.map #[] 0)).alloc (.map #[] 0)) (w.heap.size + 1 + 1 + 1 + 1) 1 noneAt 0 ∧
    Below w.heap.size w (((w3.alloc (.map #[] 0)).alloc (.map #[] 0)).alloc (.map #[] 0)) := by
  have a := MapIs.made w3 Yba.prog 49 47
  have b := MapIs.made (w3.alloc (.map #[] 0)) Yba.prog 49 47
  have c := MapIs.made ((w3.alloc (.map #[] 0)).alloc (.map #[] 0)) Yba.prog 47 4
  simp only [World.size_alloc, hs] at a b c
  exact ⟨((hm.alloc _).alloc _).alloc _, ((a.alloc _).alloc _).mono (by omega), (b.alloc _).mono (by omega), c.mono (by omega), ((hb.alloc (by omega) _).alloc (by simp; omega) _).alloc (by simp; omega) _⟩

set_option maxRecDepth 100000 in
set_option maxHeartbeats 400000 in
theorem newTally_any (org : ByteArray) (w : World) (ho : org.size ≤ maxLen) :
    Calls Yba.prog 10 #[.string org] w fun e w' => ∃ o c er rc, e = .returned (.agg #[.map (some o), .map (some c), .map (some er), .int .i64 0, .int .i64 0, .int .i64 0, .map (some rc), .int .i64 0, .bool false]) ∧
      w.heap.size ≤ o ∧ w.heap.size ≤ c ∧ w.heap.size ≤ er ∧ w.heap.size ≤ rc ∧ o ≠ c ∧ o ≠ er ∧ o ≠ rc ∧ c ≠ er ∧ c ≠ rc ∧ er ≠ rc ∧
      MapIs Yba.prog 49 47 w' o 1 (upd noneAt emp (.string org)) 1 ∧ MapIs Yba.prog 49 47 w' c 1 noneAt 0 ∧ MapIs Yba.prog 49 47 w' er 1 (fun _ => none) 0 ∧ MapIs Yba.prog 47 4 w' rc 1 noneAt 0 ∧ Below w.heap.size w w' := by
  have hmm := @run_makeMap Yba.prog
  obtain ⟨w2, hr, hm, hg, hsz⟩ := (MapIs.made (w.alloc (.cells #[.map none, .map none, .map none, .int .i64 0, .int .i64 0, .int .i64 0, .map none, .int .i64 0, .bool false] 45)) Yba.prog 49 47).store (t := 41) Yba.underlying49 Yba.underlying41 (by decide) (s := emp) (by decide) (plainElem_string Yba.underlying47 ho)
  simp only [World.size_alloc] at hr hm hsz hg
  have hb := block_far hg (block_old (block_new w _) _) (by simp)
  have c0 := cell_at (i := 0) hb rfl
  have c1 := cell_at (i := 1) hb rfl
  have c2 := cell_at (i := 2) hb rfl
  have c3 := cell_at (i := 3) hb rfl
  have c4 := cell_at (i := 4) hb rfl
  have c5 := cell_at (i := 5) hb rfl
  have c6 := cell_at (i := 6) hb rfl
  have c7 := cell_at (i := 7) hb rfl
  have c8 := cell_at (i := 8) hb rfl
  have fz : ∀ i, w2.frozen? ⟨w.heap.size, i, none⟩ = false := fun i => free_at hb
  have hlt : w.heap.size < w2.heap.size := by omega
  unfold emp at hr
  go_enter Yba.func10, Yba.ntmps10
  go_wp2
  refine bodyPost_ret (v := .agg #[.map (some (w.heap.size + 1)), .map (some (w.heap.size + 1 + 1)), .map (some (w.heap.size + 1 + 1 + 1)), .int .i64 0, .int .i64 0, .int .i64 0, .map (some (w.heap.size + 1 + 1 + 1 + 1)), .int .i64 0, .bool false]) (by simp [results, Yba.results10, go_sem, c0, c1, c2, c3, c4, c5, c6, c7, c8, hsz]) rfl ⟨_, _, _, _, rfl, by omega, by omega, by omega, by omega, by omega, by omega, by omega, by omega, by omega, by omega, ?_⟩
  refine tal_made (w3 := _) ?_ ?_ ?_
  · repeat (refine MapIs.setCell ?_ (by simp) _)
    exact hm
  · simp [World.setCell, hsz]
  · repeat (refine Below.setCell ?_ (by simp) _)
    exact (((Below.refl w.heap.size w).alloc (Nat.le_refl _) _).alloc (by simp) _).grown hg (by simp; omega) (fun k hk => by cases hk; omega)
end Go.Proofs.Ybulkrku
