import Derived.Test.YbulkrkuCTwo1
import Derived.Test.YbulkrkuCTwo2
import Derived.Test.YbulkrkuCTwo3
import Derived.Test.YbulkrkuCTwo4
import Derived.Test.YbulkrkuCTwo5
import Derived.Test.YbulkrkuCOpen
import Derived.ShutString
namespace Go.Proofs.Ybulkrku
open Go.ChangeShapes Go.WideShapes Go.ChangeAt Go.RowKit
open Go.ChangeMaps (open_string shut_string)
namespace C

set_option maxRecDepth 100000 in
set_option maxHeartbeats 400000 in
theorem two_long (org fr1 pt1 fr2 pt2 : ByteArray) (d1 d2 : Int) (sa1 sa2 : Option Addr) (n1 sc1 n2 sc2 : Nat) (lo1 pa1 lo2 pa2 : Bool) (w : World) (hn : 1024 < n1 ∨ 1024 < n2) :
    Calls Yba.prog 6 #[.string org, .agg #[.string fr1, .string pt1, .int .i64 d1, .slice sa1 n1 sc1, .bool lo1, .bool pa1], .agg #[.string fr2, .string pt2, .int .i64 d2, .slice sa2 n2 sc2, .bool lo2, .bool pa2]] w fun e w' => e = .returned (.bool true) ∧ Below w.heap.size w w' := by
  by_cases h1 : 1024 < n1
  · have hlen : decide (1024 < (n1 : Int)) = true := by simp; omega
    go_enter Yba.func6, Yba.ntmps6
    go_wp2
    go_ret
    exact ⟨rfl, ((Below.refl _ _).alloc (Nat.le_refl _) _).alloc (by simp) _⟩
  · have hlen : decide (1024 < (n1 : Int)) = false := by simp; omega
    have hlen2 : decide (1024 < (n2 : Int)) = true := by simp; omega
    go_enter Yba.func6, Yba.ntmps6
    go_wp2
    go_ret
    exact ⟨rfl, ((Below.refl _ _).alloc (Nat.le_refl _) _).alloc (by simp) _⟩

theorem two_all (org fr1 pt1 fr2 pt2 : ByteArray) (d1 d2 : Int) (sa1 sa2 : Option Addr) (n1 sc1 n2 sc2 : Nat) (lo1 pa1 lo2 pa2 : Bool) (S1 S2 : Nat → ByteArray) (w : World) (hn1 : n1 ≤ 1024) (hn2 : n2 ≤ 1024) (hS1 : StrsIs w w.heap.size sa1 n1 S1) (hS2 : StrsIs w w.heap.size sa2 n2 S2)
    (ho : org.size ≤ maxLen) (hfr1 : fr1.size ≤ maxLen) (hpt1 : pt1.size ≤ 140737488351232) (hSz1 : ∀ i, i < n1 → (S1 i).size ≤ maxLen) (hfr2 : fr2.size ≤ maxLen) (hpt2 : pt2.size ≤ 140737488351232) (hSz2 : ∀ i, i < n2 → (S2 i).size ≤ maxLen) :
    Calls Yba.prog 6 #[.string org, .agg #[.string fr1, .string pt1, .int .i64 d1, .slice sa1 n1 sc1, .bool lo1, .bool pa1], .agg #[.string fr2, .string pt2, .int .i64 d2, .slice sa2 n2 sc2, .bool lo2, .bool pa2]] w fun e w' => e = .returned (.bool true) ∧ Below w.heap.size w w' := by
  cases lo1
  · cases lo2
    · by_cases hfe : fr1 = fr2
      · exact two_any1 org fr1 pt1 fr2 pt2 d1 d2 sa1 sa2 n1 sc1 n2 sc2 pa1 pa2 S1 S2 w hn1 hn2 hfe hS1 hS2 ho hfr1 hpt1 hSz1 hfr2 hpt2 hSz2
      · exact two_any2 org fr1 pt1 fr2 pt2 d1 d2 sa1 sa2 n1 sc1 n2 sc2 pa1 pa2 S1 S2 w hn1 hn2 hfe hS1 hS2 ho hfr1 hpt1 hSz1 hfr2 hpt2 hSz2
    · exact two_any3 org fr1 pt1 fr2 pt2 d1 d2 sa1 sa2 n1 sc1 n2 sc2 pa1 pa2 S1 S2 w hn1 hn2 hS1 hS2 ho hfr1 hpt1 hSz1 hfr2 hpt2 hSz2
  · cases lo2
    · exact two_any4 org fr1 pt1 fr2 pt2 d1 d2 sa1 sa2 n1 sc1 n2 sc2 pa1 pa2 S1 S2 w hn1 hn2 hS1 hS2 ho hfr1 hpt1 hSz1 hfr2 hpt2 hSz2
    · exact two_any5 org fr1 pt1 fr2 pt2 d1 d2 sa1 sa2 n1 sc1 n2 sc2 pa1 pa2 S1 S2 w hn1 hn2 hS1 hS2 ho hfr1 hpt1 hSz1 hfr2 hpt2 hSz2

set_option maxRecDepth 100000 in
theorem two_lifted (os : Os) (started : os.Started) (H : Type) (enc : TypeId × Value → H) :
    ReturnsInHanded {} Yba.checked os 6 .any (Rows.lawS0891CTwoSpec.pre6 enc Yba.prog Yba.f6 Rows.lawS0891CTwoRow.domain false) (Rows.lawS0891CTwoSpec.post enc Yba.prog Yba.f6 false true false false) := by
  refine returnsInHanded_of_change_sized (C := Yba.checked) own started (by kernel_rfl) Yba.func6
    (ChangeSpec.witness6 (enc := enc) (C := Yba.checked) false ⟨#[], #[.string ⟨#[]⟩, .agg #[.string ⟨#[]⟩, .string ⟨#[]⟩, .int .i64 0, .slice none 0 0, .bool false, .bool false], .agg #[.string ⟨#[]⟩, .string ⟨#[]⟩, .int .i64 0, .slice none 0 0, .bool false, .bool false]], []⟩ 8 (by kernel_rfl) (by kernel_rfl) (by kernel_rfl) (by kernel_rfl)) ?_
  intro W base args ds gs before hval0 hW hcnd hsz0 _
  have hval : ∀ (j : Nat) t v, Yba.f6.params[j]? = some t → args[j]? = some v → Value.okWide Yba.prog W .any base t v := hval0
  have hsz : (DataW.weightsEach Yba.prog (Yba.f6.params.toList ++ Rows.lawS0891CTwoSpec.plain.varTypes Yba.prog) (ds ++ gs)).all (· ≤ reachBytes) = true := hsz0
  have hW' := hW
  obtain ⟨p, q, hA0, hV, rfl, hfz, hnd⟩ := hW
  have hA : DataW.TrodAll enc Yba.prog W 0 (fun _ => true) true Yba.f6.params.toList args.toList ds p := hA0
  rw [Yba.params6] at hA hval hsz
  obtain ⟨v0, vs0, d0, ds0, p0, q0, hargs, rfl, rfl, h0, r0⟩ := trodAll_cons hA
  obtain ⟨v1, vs1, d1, ds1, p1, q1, rfl, rfl, rfl, h1, r1⟩ := trodAll_cons r0
  obtain ⟨v2, vs2, d2, ds2, p2, q2, rfl, rfl, rfl, h2, r2⟩ := trodAll_cons r1
  obtain ⟨rfl, rfl, rfl⟩ := trodAll_nil r2
  obtain rfl : args = #[v0, v1, v2] := by cases args; simp_all
  obtain ⟨rfl, rfl⟩ := trodVars_none hV
  have lt0 : ∀ x ∈ p0, x.block < W.heap.size := by obtain ⟨m, hm⟩ := h0; exact DataW.trod_lt m _ _ _ hm
  have lt1 : ∀ x ∈ p1, x.block < W.heap.size := by obtain ⟨m, hm⟩ := h1; exact DataW.trod_lt m _ _ _ hm
  have lt2 : ∀ x ∈ p2, x.block < W.heap.size := by obtain ⟨m, hm⟩ := h2; exact DataW.trod_lt m _ _ _ hm
  have k0 := h0
  have k1 := h1
  have k2 := h2
  obtain ⟨org, rfl, _, _, hog⟩ := open_string Yba.underlying9 (hval 0 9 v0 rfl rfl) h0
  obtain ⟨fr1, pt1, dd1, sa1, n1, sc1, lo1, pa1, S1, rfl, hfr1, hS1, hSz1, hpw1⟩ := open_rec (hval 1 40 v1 rfl rfl) h1
  obtain ⟨fr2, pt2, dd2, sa2, n2, sc2, lo2, pa2, S2, rfl, hfr2, hS2, hSz2, hpw2⟩ := open_rec (hval 2 40 v2 rfl rfl) h2
  have hpt1 : pt1.size ≤ 140737488351232 := by
    have := List.all_eq_true.1 hsz _ (DataW.weights_mem_each (j := 1) (t := 40) rfl rfl pt1.size hpw1)
    exact of_decide_eq_true this
  have hpt2 : pt2.size ≤ 140737488351232 := by
    have := List.all_eq_true.1 hsz _ (DataW.weights_mem_each (j := 2) (t := 40) rfl rfl pt2.size hpw2)
    exact of_decide_eq_true this
  clear hA0 hval0 hsz0
  have walked : Calls Yba.prog 6 #[.string org, .agg #[.string fr1, .string pt1, .int .i64 dd1, .slice sa1 n1 sc1, .bool lo1, .bool pa1], .agg #[.string fr2, .string pt2, .int .i64 dd2, .slice sa2 n2 sc2, .bool lo2, .bool pa2]] W fun e w' => e = .returned (.bool true) ∧ Below W.heap.size W w' := by
    by_cases hl : 1024 < n1 ∨ 1024 < n2
    · exact two_long org fr1 pt1 fr2 pt2 dd1 dd2 sa1 sa2 n1 sc1 n2 sc2 lo1 pa1 lo2 pa2 W hl
    · exact two_all org fr1 pt1 fr2 pt2 dd1 dd2 sa1 sa2 n1 sc1 n2 sc2 lo1 pa1 lo2 pa2 S1 S2 W (by omega) (by omega) hS1 hS2 hog hfr1 hpt1 hSz1 hfr2 hpt2 hSz2
  refine walked.mono fun e W' ⟨he, bel⟩ => ?_
  subst he
  exact ⟨_, rfl, _, _, _, [], _, [], hW', trodAll_mk1 (shut_bool Yba.underlying4 _), (trodAll_cons_mk (Below.trod laidOut (by kernel_rfl) (of_decide_eq_true (by kernel_rfl)) k0 bel lt0) (trodAll_cons_mk (Below.trod laidOut (by kernel_rfl) (of_decide_eq_true (by kernel_rfl)) k1 bel lt1) (trodAll_cons_mk (Below.trod laidOut (by kernel_rfl) (of_decide_eq_true (by kernel_rfl)) k2 bel lt2) trodAll_mk0))), rfl, bel.frame _, fun h => by cases h⟩

theorem two_over : Rows.lawS0891CTwoRow.holds Yba.pinned (OpenSpec.ofChange Rows.lawS0891CTwoSpec) :=
  OpenClaim.holds_of_wide 6 Yba.f6 rfl rfl rfl rfl rfl rfl rfl ⟨rfl, rfl, rfl, rfl, rfl⟩ rfl rfl rfl rfl rfl (by kernel_rfl) Yba.func6 (by kernel_rfl)
    (of_decide_eq_true (by kernel_rfl)) (by unfold Func.isWrapper; first | (rw [if_pos (by decide +kernel)]; kernel_rfl) | (rw [if_neg (by decide +kernel)]; exact ⟨rfl, rfl⟩))
    (fun os started H enc _ => two_lifted os started H enc)
end C
theorem two_proved : Rows.LawS0891CTwoSaid := C.two_over
#print axioms two_proved
end Go.Proofs.Ybulkrku
