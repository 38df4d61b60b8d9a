import Derived.Test.YbulkrkuFmtOpen
import Derived.Test.YbulkrkuFmtDecWalk
import Derived.ShutString
namespace Go.Proofs.YbulkrkuFmt
open Go.ChangeShapes Go.WideShapes Go.ChangeAt Go.RowKit
open Go.Extern.Stop Go.Stop Go.Extern

theorem dec_walked (pa xa : Option Addr) (pn pc n xc : Nat) (pl : List UInt8) (S : Nat → ByteArray) (w : World) (hP : ArgBytes w w.heap.size pa pn pc pl) (hS : StrsIs w w.heap.size xa n S) (hz : ∀ i, i < n → (S i).size ≤ 140737488351232) :
    Calls Ybaf.prog 4 #[.slice xa n xc, .slice pa pn pc] w fun e w' => LawPost w e w' := by
  by_cases hp : 4096 < pn
  · exact decLong pa pn pc _ w hp
  · exact decLaw_any pa xa pn pc n xc pl S w (by omega) hP hS hz

set_option maxRecDepth 100000 in
theorem dec_lifted (os : Os) (started : os.Started) (H : Type) (enc : TypeId × Value → H) :
    ReturnsInTold none {} Ybaf.checked os 4 .any Input.okWide ((OpenSpec.ofChange Rows.lawS0891ARoundTripSpec).preRow enc Ybaf.prog Ybaf.f4 [] false []) (fun F => ((OpenSpec.ofChange Rows.lawS0891ARoundTripSpec).at F).post enc Ybaf.prog Ybaf.f4 false true false false) (aloneAtReturn Ybaf.prog) nothingAlways := by
  refine returnsInTold_of_row (C := Ybaf.checked) (s := OpenSpec.ofChange Rows.lawS0891ARoundTripSpec) (by kernel_rfl) own started (by kernel_rfl) Ybaf.func4
    (OpenSpec.witness_stopped (enc := enc) (C := Ybaf.checked) false ⟨#[], #[.slice none 0 0, .slice none 0 0], []⟩ 8 (by kernel_rfl) (by kernel_rfl) (by kernel_rfl) (by kernel_rfl)) ?_
  intro F W base args ds gs before _ _ hval0 hW _ _ hsz0 _ _
  have hval : ∀ (j : Nat) t v, Ybaf.f4.params[j]? = some t → args[j]? = some v → Value.okWide Ybaf.prog W .any base t v := hval0
  have hsz : (DataW.weightsEach Ybaf.prog (Ybaf.f4.params.toList ++ (OpenSpec.ofChange Rows.lawS0891ARoundTripSpec).bare.plain.varTypes Ybaf.prog) (ds ++ gs)).all (· ≤ reachBytes) = true := hsz0
  have hW' := hW
  obtain ⟨p, q, hA0, hV, rfl, hfz, hnd⟩ := hW
  have hA : DataW.TrodAll enc Ybaf.prog W 0 (fun _ => true) true Ybaf.f4.params.toList args.toList ds p := hA0
  rw [Ybaf.params4] at hA hval hsz
  obtain ⟨v0, vs0, d0, ds0, p0, q0, hargs, rfl, rfl, h0, r0⟩ := trodAll_cons hA
  obtain ⟨v1, vs1, d1, ds1, p1, q1, rfl, rfl, rfl, h1, r1⟩ := trodAll_cons r0
  obtain ⟨rfl, rfl, rfl⟩ := trodAll_nil r1
  obtain rfl : args = #[v0, v1] := by cases args; simp_all
  obtain ⟨rfl, rfl⟩ := trodVars_none hV
  have lt0 : ∀ x ∈ p0, x.block < W.heap.size := by obtain ⟨m, hm⟩ := h0; exact DataW.trod_lt m _ _ _ hm
  have lt1 : ∀ x ∈ p1, x.block < W.heap.size := by obtain ⟨m, hm⟩ := h1; exact DataW.trod_lt m _ _ _ hm
  have k0 := h0
  have k1 := h1
  obtain ⟨xa, n, xc, rfl⟩ := okWide_slice Ybaf.underlying23 (hval 0 23 v0 rfl rfl)
  obtain ⟨pa, pn, pc, rfl⟩ := okWide_slice Ybaf.underlying22 (hval 1 22 v1 rfl rfl)
  obtain ⟨m0, g0⟩ := h0
  obtain ⟨m1, g1⟩ := h1
  simp only [Value.cells] at g0 g1
  obtain ⟨_, _, _, pl, e0, hP⟩ := open_bytes g1
  obtain ⟨_, _, _, S, e1, hS, hw⟩ := open_strs g0
  cases e0; cases e1
  have hz : ∀ i, i < n → (S i).size ≤ 140737488351232 := fun i hi => by
    have := List.all_eq_true.1 hsz _ (DataW.weights_mem_each (j := 0) (t := 23) rfl rfl _ (hw i hi))
    exact of_decide_eq_true this
  refine (dec_walked pa xa pn pc n xc pl S W hP hS hz).mono fun e W' ⟨he, bel⟩ => ?_
  subst he
  exact ⟨_, rfl, _, _, _, [], _, [], hW', trodAll_mk1 (shut_bool Ybaf.underlying4 _), (trodAll_cons_mk (Below.trod laidOut (by kernel_rfl) (of_decide_eq_true (by kernel_rfl)) k0 bel lt0) (trodAll_cons_mk (Below.trod laidOut (by kernel_rfl) (of_decide_eq_true (by kernel_rfl)) k1 bel lt1) trodAll_mk0)), rfl, bel.frame _, fun h => by cases h⟩

theorem roundTrip_told : Rows.LawS0891ARoundTripToldSaid :=
  Claim7.holds_of_told_any 4 Ybaf.f4 "fmt.errorf" [] [] _ _ _ (by kernel_rfl) rfl rfl rfl laidOut (by kernel_rfl) rfl ⟨rfl, rfl, rfl, rfl, rfl, rfl, rfl⟩ rfl rfl (by kernel_rfl) (by kernel_rfl) Ybaf.func4 (by kernel_rfl)
    (of_decide_eq_true (by kernel_rfl)) (of_decide_eq_true (by kernel_rfl)) stops.symm rfl stopKnobs.symm (by kernel_rfl)
    (by kernel_rfl) (by kernel_rfl) (by kernel_rfl) (by kernel_rfl) (by kernel_rfl) (by kernel_rfl) (by kernel_rfl) (by kernel_rfl) (by kernel_rfl) rfl (by kernel_rfl) rfl rfl
    rfl rfl
    rfl (by kernel_rfl) (by kernel_rfl) (by kernel_rfl) (by decide) (by kernel_rfl)
    (OpenClaim.moreEntering_of (by kernel_rfl) (by kernel_rfl) (by kernel_rfl) (by kernel_rfl) (by kernel_rfl) (by kernel_rfl) (by kernel_rfl) (by kernel_rfl) (by kernel_rfl) (by kernel_rfl))
    ⟨_, WideRow.started_initial, quiet _⟩
    (fun os started _ H enc _ => dec_lifted os started H enc)
#print axioms roundTrip_told
end Go.Proofs.YbulkrkuFmt
