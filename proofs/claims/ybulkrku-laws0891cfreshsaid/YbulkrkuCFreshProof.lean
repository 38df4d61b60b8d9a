import Derived.Test.YbulkrkuCFresh
import Derived.Test.YbulkrkuCOpen
import Derived.ShutString
namespace Go.Proofs.Ybulkrku
open Go.ChangeShapes Go.WideShapes Go.ChangeAt Go.RowKit
open Go.ChangeMaps (open_string shut_string)
namespace C

set_option maxRecDepth 100000 in
set_option maxHeartbeats 400000 in
theorem fresh_long (org fr pt : ByteArray) (d : Int) (sa : Option Addr) (n sc : Nat) (lo pa : Bool) (w : World) (hn : 1024 < n) :
    Calls Yba.prog 5 #[.string org, .agg #[.string fr, .string pt, .int .i64 d, .slice sa n sc, .bool lo, .bool pa]] w fun e w' => e = .returned (.bool true) ∧ Below w.heap.size w w' := by
  have hlen : decide (1024 < (n : Int)) = true := by simp; omega
  go_enter Yba.func5, Yba.ntmps5
  go_wp2
  go_ret
  exact ⟨rfl, (Below.refl _ _).alloc (Nat.le_refl _) _⟩

set_option maxRecDepth 100000 in
theorem fresh_lifted (os : Os) (started : os.Started) (H : Type) (enc : TypeId × Value → H) :
    ReturnsInHanded {} Yba.checked os 5 .any (Rows.lawS0891CFreshSpec.pre6 enc Yba.prog Yba.f5 Rows.lawS0891CFreshRow.domain false) (Rows.lawS0891CFreshSpec.post enc Yba.prog Yba.f5 false true false false) := by
  refine returnsInHanded_of_change_sized (C := Yba.checked) own started (by kernel_rfl) Yba.func5
    (ChangeSpec.witness6 (enc := enc) (C := Yba.checked) false ⟨#[], #[.string ⟨#[]⟩, .agg #[.string ⟨#[]⟩, .string ⟨#[]⟩, .int .i64 0, .slice none 0 0, .bool false, .bool false]], []⟩ 8 (by kernel_rfl) (by kernel_rfl) (by kernel_rfl) (by kernel_rfl)) ?_
  intro W base args ds gs before hval0 hW hcnd hsz0 _
  have hval : ∀ (j : Nat) t v, Yba.f5.params[j]? = some t → args[j]? = some v → Value.okWide Yba.prog W .any base t v := hval0
  have hsz : (DataW.weightsEach Yba.prog (Yba.f5.params.toList ++ Rows.lawS0891CFreshSpec.plain.varTypes Yba.prog) (ds ++ gs)).all (· ≤ reachBytes) = true := hsz0
  have hW' := hW
  obtain ⟨p, q, hA0, hV, rfl, hfz, hnd⟩ := hW
  have hA : DataW.TrodAll enc Yba.prog W 0 (fun _ => true) true Yba.f5.params.toList args.toList ds p := hA0
  rw [Yba.params5] at hA hval hsz
  obtain ⟨v0, vs0, d0, ds0, p0, q0, hargs, rfl, rfl, h0, r0⟩ := trodAll_cons hA
  obtain ⟨v1, vs1, d1, ds1, p1, q1, rfl, rfl, rfl, h1, r1⟩ := trodAll_cons r0
  obtain ⟨rfl, rfl, rfl⟩ := trodAll_nil r1
  obtain rfl : args = #[v0, v1] := by cases args; simp_all
  obtain ⟨rfl, rfl⟩ := trodVars_none hV
  have lt0 : ∀ x ∈ p0, x.block < W.heap.size := by obtain ⟨m, hm⟩ := h0; exact DataW.trod_lt m _ _ _ hm
  have lt1 : ∀ x ∈ p1, x.block < W.heap.size := by obtain ⟨m, hm⟩ := h1; exact DataW.trod_lt m _ _ _ hm
  have k0 := h0
  have k1 := h1
  obtain ⟨org, rfl, _, _, hog⟩ := open_string Yba.underlying9 (hval 0 9 v0 rfl rfl) h0
  obtain ⟨fr, pt, dd, sa, n, sc, lo, pa, S, rfl, hfr, hS, hSz, hpw⟩ := open_rec (hval 1 40 v1 rfl rfl) h1
  have hpt : pt.size ≤ 140737488351232 := by
    have := List.all_eq_true.1 hsz _ (DataW.weights_mem_each (j := 1) (t := 40) rfl rfl pt.size hpw)
    exact of_decide_eq_true this
  clear hA0 hval0 hsz0
  have walked : Calls Yba.prog 5 #[.string org, .agg #[.string fr, .string pt, .int .i64 dd, .slice sa n sc, .bool lo, .bool pa]] W fun e w' => e = .returned (.bool true) ∧ Below W.heap.size W w' := by
    by_cases hl : 1024 < n
    · exact fresh_long org fr pt dd sa n sc lo pa W hl
    · exact fresh_any org fr pt dd sa n sc lo pa S W (by omega) hS hog hfr hpt hSz
  refine walked.mono fun e W' ⟨he, bel⟩ => ?_
  subst he
  exact ⟨_, rfl, _, _, _, [], _, [], hW', trodAll_mk1 (shut_bool Yba.underlying4 _), (trodAll_cons_mk (Below.trod laidOut (by kernel_rfl) (of_decide_eq_true (by kernel_rfl)) k0 bel lt0) (trodAll_cons_mk (Below.trod laidOut (by kernel_rfl) (of_decide_eq_true (by kernel_rfl)) k1 bel lt1) trodAll_mk0)), rfl, bel.frame _, fun h => by cases h⟩

theorem fresh_over : Rows.lawS0891CFreshRow.holds Yba.pinned (OpenSpec.ofChange Rows.lawS0891CFreshSpec) :=
  OpenClaim.holds_of_wide 5 Yba.f5 rfl rfl rfl rfl rfl rfl rfl ⟨rfl, rfl, rfl, rfl, rfl⟩ rfl rfl rfl rfl rfl (by kernel_rfl) Yba.func5 (by kernel_rfl)
    (of_decide_eq_true (by kernel_rfl)) (by unfold Func.isWrapper; first | (rw [if_pos (by decide +kernel)]; kernel_rfl) | (rw [if_neg (by decide +kernel)]; exact ⟨rfl, rfl⟩))
    (fun os started H enc _ => fresh_lifted os started H enc)
end C
theorem fresh_proved : Rows.LawS0891CFreshSaid := C.fresh_over
#print axioms fresh_proved
end Go.Proofs.Ybulkrku
