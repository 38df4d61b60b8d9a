import Derived.Test.YbulkrqeMatch
import Derived.Deep.Slices
import Derived.WalkKit
import Derived.ProofKit
import Derived.OpenShut
import Derived.ShutString
import Derived.ChangeOld
import Derived.Below
namespace Go.Proofs.Ybulkrqe
open Go.ChangeShapes Go.WideShapes Go.ChangeAt Go.RowKit
open Go.ChangeMaps (open_string shut_string)
set_option linter.unusedVariables false

theorem own : ownKnob Yba.prog.godebug = none := by kernel_rfl
theorem laidOut : laidOutB Yba.prog = true := by kernel_rfl

theorem open_bytes {H : Type} {enc : TypeId × Value → H} {W : World} {fuel : Nat} {v : Value} {x : DataW H × List MemPlace} (h : DataW.trod enc Yba.prog W 0 (fun _ => true) true fuel 22 [v] = some x) :
    ∃ a len cap pl, v = .slice a len cap ∧ ArgBytes W W.heap.size a len cap pl := by
  rcases Go.Deep.open_slice1 Yba.underlying22 (by kernel_rfl) h with ⟨hcs, _⟩ | ⟨x, len, cap, m, n, V, D, Pl, hcs, _, hl, _, hm, hxx, hx⟩
  · simp at hcs
    exact ⟨none, 0, 0, [], hcs, rfl, .inl ⟨rfl, rfl, rfl⟩⟩
  · simp at hcs
    subst hcs
    simp only [if_true] at hm
    subst hm
    have hy : ∀ i, i < len → ∃ b : UInt8, V i = .int .u8 b.toNat := fun i hi => by
      obtain ⟨k, hs, _, hw⟩ := DataW.trod_int Yba.underlying5 (hx i (by omega)).2
      simp [Lit.wf, IntKind.min, IntKind.max, IntKind.signed, IntKind.bits] at hw
      refine ⟨UInt8.ofNat k.toNat, ?_⟩
      have : ((UInt8.ofNat k.toNat).toNat : Int) = k := by
        rw [UInt8.toNat_ofNat']
        omega
      rw [this]
      simpa using hs
    obtain ⟨S, hS⟩ := Go.Deep.choose_lt hy
    refine ⟨some x, len, m, (List.range len).map S, rfl, by simp, .inr ⟨x, rfl, fun h0 => ?_, fun j u hu => ?_⟩⟩
    · have := World.block_lt_of_cell? W _ (hx 0 (by omega)).1
      rwa [add_block] at this
    · have hj : j < len := by have := (List.getElem?_eq_some_iff.1 hu).1; simpa [byteCells] using this
      rw [(hx j (by omega)).1, hS j hj]
      simpa [byteCells, hj] using hu

theorem walk (a0 : Option Addr) (len0 cap0 : Nat) (z0 : List UInt8) (a1 : Option Addr) (len1 cap1 : Nat) (z1 : List UInt8) (a2 : Option Addr) (len2 cap2 : Nat) (z2 : List UInt8) (a3 : Bool) (w : World) (w0 : ArgBytes w w.heap.size a0 len0 cap0 z0) (w1 : ArgBytes w w.heap.size a1 len1 cap1 z1) (w2 : ArgBytes w w.heap.size a2 len2 cap2 z2) :
    Calls Yba.prog 4 #[.slice a0 len0 cap0, .slice a1 len1 cap1, .slice a2 len2 cap2, .bool a3] w fun e w' => LawPost w e w' := by
  by_cases h : 1024 < len0 ∨ 1024 < len1 ∨ 1024 < len2
  · exact match_long0 a0 a1 a2 len0 cap0 len1 cap1 len2 cap2 a3 w h
  · exact match_any a0 a1 a2 len0 cap0 len1 cap1 len2 cap2 z0 z1 z2 a3 w (by omega) (by omega) (by omega) w0 w1 w2

/-! ### THE ROW's STEP: WRITTEN OUT: LEAVE IT -/
set_option maxRecDepth 100000 in
theorem lifted (os : Os) (started : os.Started) (H : Type) (enc : TypeId × Value → H) :
    ReturnsInHanded {} Yba.checked os 4 .any (Rows.lawS0901AMatchSpec.pre6 enc Yba.prog Yba.f4 Rows.lawS0901AMatchRow.domain false) (Rows.lawS0901AMatchSpec.post enc Yba.prog Yba.f4 false true false false) := by
  refine returnsInHanded_of_change (C := Yba.checked) own started (by kernel_rfl) Yba.func4
    (ChangeSpec.witness6 (enc := enc) (C := Yba.checked) false ⟨#[], #[.slice none 0 0, .slice none 0 0, .slice none 0 0, .bool false], []⟩ 8 (by kernel_rfl) (by kernel_rfl) (by kernel_rfl) (by kernel_rfl)) ?_
  intro W base args ds gs before hval0 hW hcnd _
  have hval : ∀ (j : Nat) t v, Yba.f4.params[j]? = some t → args[j]? = some v → Value.okWide Yba.prog W .any base t v := hval0
  have hW' := hW
  obtain ⟨p, q, hA0, hV, rfl, hfz, hnd⟩ := hW
  have hA : DataW.TrodAll enc Yba.prog W 0 (fun _ => true) true Yba.f4.params.toList args.toList ds p := hA0
  rw [Yba.params4] at hA hval
  obtain ⟨v0, vs0, d0, ds0, p0, q0, hargs, rfl, rfl, h0, r0⟩ := trodAll_cons hA
  obtain ⟨v1, vs1, d1, ds1, p1, q1, rfl, rfl, rfl, h1, r1⟩ := trodAll_cons r0
  obtain ⟨v2, vs2, d2, ds2, p2, q2, rfl, rfl, rfl, h2, r2⟩ := trodAll_cons r1
  obtain ⟨v3, vs3, d3, ds3, p3, q3, rfl, rfl, rfl, h3, r3⟩ := trodAll_cons r2
  obtain ⟨rfl, rfl, rfl⟩ := trodAll_nil r3
  obtain rfl : args = #[v0, v1, v2, v3] := by cases args; simp_all
  obtain ⟨rfl, rfl⟩ := trodVars_none hV
  obtain ⟨a0, len0, cap0, rfl⟩ := okWide_slice Yba.underlying22 (hval 0 22 v0 rfl rfl)
  have k0 := h0
  have lt0 : ∀ x ∈ p0, x.block < W.heap.size := by obtain ⟨m, hm⟩ := k0; exact DataW.trod_lt m _ _ _ hm
  obtain ⟨z0, w0⟩ : ∃ zs, ArgBytes W W.heap.size a0 len0 cap0 zs := by
    obtain ⟨fuel, hf⟩ := h0
    simp only [Value.cells] at hf
    obtain ⟨_, _, _, pl, e, hp⟩ := open_bytes hf
    cases e
    exact ⟨pl, hp⟩
  obtain ⟨a1, len1, cap1, rfl⟩ := okWide_slice Yba.underlying22 (hval 1 22 v1 rfl rfl)
  have k1 := h1
  have lt1 : ∀ x ∈ p1, x.block < W.heap.size := by obtain ⟨m, hm⟩ := k1; exact DataW.trod_lt m _ _ _ hm
  obtain ⟨z1, w1⟩ : ∃ zs, ArgBytes W W.heap.size a1 len1 cap1 zs := by
    obtain ⟨fuel, hf⟩ := h1
    simp only [Value.cells] at hf
    obtain ⟨_, _, _, pl, e, hp⟩ := open_bytes hf
    cases e
    exact ⟨pl, hp⟩
  obtain ⟨a2, len2, cap2, rfl⟩ := okWide_slice Yba.underlying22 (hval 2 22 v2 rfl rfl)
  have k2 := h2
  have lt2 : ∀ x ∈ p2, x.block < W.heap.size := by obtain ⟨m, hm⟩ := k2; exact DataW.trod_lt m _ _ _ hm
  obtain ⟨z2, w2⟩ : ∃ zs, ArgBytes W W.heap.size a2 len2 cap2 zs := by
    obtain ⟨fuel, hf⟩ := h2
    simp only [Value.cells] at hf
    obtain ⟨_, _, _, pl, e, hp⟩ := open_bytes hf
    cases e
    exact ⟨pl, hp⟩
  obtain ⟨a3, rfl, rfl, rfl⟩ := open_bool Yba.underlying4 (hval 3 4 v3 rfl rfl) h3
  clear hA0 hval0
  refine (walk a0 len0 cap0 z0 a1 len1 cap1 z1 a2 len2 cap2 z2 a3 W w0 w1 w2).mono fun e W' ⟨he, bel⟩ => ?_
  subst he
  exact ⟨_, rfl, _, _, _, [], _, [], hW', trodAll_mk1 (shut_bool Yba.underlying4 _), (trodAll_cons_mk (Below.trod laidOut (by kernel_rfl) (of_decide_eq_true (by kernel_rfl)) k0 bel lt0) (trodAll_cons_mk (Below.trod laidOut (by kernel_rfl) (of_decide_eq_true (by kernel_rfl)) k1 bel lt1) (trodAll_cons_mk (Below.trod laidOut (by kernel_rfl) (of_decide_eq_true (by kernel_rfl)) k2 bel lt2) (trodAll_cons_mk (shut_bool Yba.underlying4 _) trodAll_mk0)))), rfl, bel.frame _, fun h => by cases h⟩

theorem over : Rows.lawS0901AMatchRow.holds Yba.pinned (OpenSpec.ofChange Rows.lawS0901AMatchSpec) :=
  OpenClaim.holds_of_wide 4 Yba.f4 rfl rfl rfl rfl rfl rfl rfl ⟨rfl, rfl, rfl, rfl, rfl⟩ rfl rfl rfl rfl rfl (by kernel_rfl) Yba.func4 (by kernel_rfl)
    (of_decide_eq_true (by kernel_rfl)) (by unfold Func.isWrapper; first | (rw [if_pos (by decide +kernel)]; kernel_rfl) | (rw [if_neg (by decide +kernel)]; exact ⟨rfl, rfl⟩))
    (fun os started H enc _ => lifted os started H enc)

/-- ████ THE STATEMENT ████ -/
theorem match_proved : Rows.LawS0901AMatchSaid := over
#print axioms match_proved
end Go.Proofs.Ybulkrqe
