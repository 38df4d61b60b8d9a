import Derived.Test.YbulkrkuBOn
namespace Go.Proofs.Ybulkrku
open Go.RowKit
attribute [local go_sem] run_store_float

/-- the path, as it lies in w -/
def PathIs (w : World) (B : Nat) (a : Option Addr) (n : Nat) (D : Nat → Int) (F : Nat → Nat) (U M : Nat → Bool) : Prop :=
  n = 0 ∨ ∃ b off, b < B ∧ a = some ⟨b, off, none⟩ ∧ ∀ i, i < n → w.cell? ⟨b, off + i * 4, none⟩ = some (.int .i64 (D i)) ∧ w.cell? ⟨b, off + i * 4 + 1, none⟩ = some (.float .f64 (F i)) ∧
    w.cell? ⟨b, off + i * 4 + 2, none⟩ = some (.bool (U i)) ∧ w.cell? ⟨b, off + i * 4 + 3, none⟩ = some (.bool (M i))

theorem PathIs.below {w w' : World} {B : Nat} {a : Option Addr} {n : Nat} {D : Nat → Int} {F : Nat → Nat} {U M : Nat → Bool} (h : PathIs w B a n D F U M) (hb : Below B w w') : PathIs w' B a n D F U M := by
  rcases h with h | ⟨b, off, h1, h2, h3⟩
  · exact .inl h
  · exact .inr ⟨b, off, h1, h2, fun i hi => by
      obtain ⟨q0, q1, q2, q3⟩ := h3 i hi
      exact ⟨(hb.cell (p := ⟨b, off + i * 4, none⟩) h1).trans q0, (hb.cell (p := ⟨b, off + i * 4 + 1, none⟩) h1).trans q1, (hb.cell (p := ⟨b, off + i * 4 + 2, none⟩) h1).trans q2, (hb.cell (p := ⟨b, off + i * 4 + 3, none⟩) h1).trans q3⟩⟩

def levs (k : Nat) : List Value := (List.range k).map fun (i : Nat) => .int .i64 i
def stps (D : Nat → Int) (F : Nat → Nat) (U M : Nat → Bool) (k : Nat) : List Value := (List.range k).flatMap fun i => [.int .i64 (D i), .float .f64 (F i), .bool (U i), .bool (M i)]
theorem levs_succ (k : Nat) : levs (k + 1) = levs k ++ [.int .i64 k] := by simp [levs, List.range_succ]
theorem stps_succ (D : Nat → Int) (F : Nat → Nat) (U M : Nat → Bool) (k : Nat) : stps D F U M (k + 1) = stps D F U M k ++ [.int .i64 (D k), .float .f64 (F k), .bool (U k), .bool (M k)] := by simp [stps, List.range_succ]

theorem method_on (a : Addr) (w : World) : (method 190 24 (.pointer (some a)) "On").run Yba.prog w = .ok (32, .pointer (some a)) w := by kernel_rfl

theorem Pl.alloc {B : Nat} {aa : Option Addr} {al ac : Nat} {w : World} {lv sv : Value} {n : Nat} {ls ss : List Value} (h : Pl B aa al ac w lv sv n ls ss) (o : Obj) : Pl B aa al ac (w.alloc o) lv sv n ls ss :=
  ⟨block_old h.blk o, h.lev.alloc o, h.stp.alloc o⟩

/-- how often the place is asked -/
def callsOf (m n : Nat) : Nat := if m < n then m + 1 else m
def FolDone (B : Nat) (aa : Option Addr) (al ac : Nat) (w w' : World) (D : Nat → Int) (F : Nat → Nat) (U M : Nat → Bool) (c : Nat) : Prop :=
  ∃ lv' sv', Pl B aa al ac w' lv' sv' c (levs c) (stps D F U M c) ∧ Below B w w'

set_option maxHeartbeats 400000 in
theorem follows_any (B : Nat) (pa aa : Option Addr) (n pc al ac m : Nat) (D : Nat → Int) (F : Nat → Nat) (U M ga : Nat → Bool) (w : World) (lv sv : Value)
    (hn : n ≤ 1024) (hal : al ≤ 1024) (hP : PathIs w B pa n D F U M) (hA : AnsIs w B aa al ga) (hI : Pl B aa al ac w lv sv 0 [] []) (hm : IsMiss (ansAt ga al) n m) :
    Calls Yba.prog 7 #[.slice pa n pc, .iface 24 (.pointer (some ⟨B, 0, none⟩))] w fun e w' => e = .returned (.int .i64 m) ∧
      FolDone B aa al ac w w' D F U M (callsOf m n) := by
  obtain ⟨hm1, hm2, hm3⟩ := hm
  have Hm2 : Hid (∀ j, j < m → ansAt ga al j = true) := hm2
  have Hm3 : Hid (m < n → ansAt ga al m = false) := hm3
  clear hm2 hm3
  have hmo := method_on
  go_enter Yba.func7, Yba.ntmps7
  go_wp2
  go_loopw [9] (fun i wr => ∃ k : Nat, k ≤ m ∧ i = .int .i64 k ∧ ∃ lv sv, Pl B aa al ac wr lv sv k (levs k) (stps D F U M k) ∧ Below B w wr) (fun i _ => n - (intOf i).toNat)
  case atStart => exact ⟨0, Nat.zero_le _, rfl, lv, sv, hI, Below.refl _ _⟩
  case round =>
    obtain ⟨k, hk, rfl, lk, sk, hIk, hbel⟩ := hrel
    by_cases hlt : k < n
    · have hAk := hA.below hbel
      rcases hP.below hbel with h0 | ⟨b, off, hb, rfl, hc⟩
      · omega
      obtain ⟨q0, q1, q2, q3⟩ := hc k hlt
      clear hc
      have hBr : B < wr.heap.size := lt_of_block hIk.blk
      cases hgk : ansAt ga al k with
      | true =>
        have hne : k ≠ m := fun e => by
          have := Hm3.out (by omega)
          rw [← e, hgk] at this
          cases this
        have HG : Hid (ansAt ga al k = true) := hgk
        clear hgk
        go_wp2_with (go_at_call 32; refine (on_any B aa al ac _ lk sk k _ _ ga (D k) (F k) (U k) (M k) (hIk.alloc _) (hAk.below ((Below.refl _ _).alloc (by omega) _)) (by omega) (by omega)).mono ?_; rw [HG.out]; rintro e w2 ⟨rfl, lv2, sv2, hI2, hb2⟩)
        go_roundw
        case rel => exact ⟨k + 1, by omega, by go_num, lv2, sv2, by rw [levs_succ, stps_succ]; exact hI2, (hbel.alloc (by omega) _).trans hb2⟩
        case measure => simp [intOf]; omega
      | false =>
        have he : ¬ k < m := fun h => by
          have := Hm2.out k h
          rw [hgk] at this
          cases this
        obtain rfl : k = m := by omega
        have HG : Hid (ansAt ga al k = false) := hgk
        clear hgk
        go_wp2_with (go_at_call 32; refine (on_any B aa al ac _ lk sk k _ _ ga (D k) (F k) (U k) (M k) (hIk.alloc _) (hAk.below ((Below.refl _ _).alloc (by omega) _)) (by omega) (by omega)).mono ?_; rw [HG.out]; rintro e w2 ⟨rfl, lv2, sv2, hI2, hb2⟩)
        go_ret
        exact ⟨rfl, lv2, sv2, by rw [show callsOf k n = k + 1 from if_pos hlt, levs_succ, stps_succ]; exact hI2, (hbel.alloc (by omega) _).trans hb2⟩
    · obtain rfl : k = n := by omega
      obtain rfl : m = k := by omega
      go_wp2
      go_ret
      exact ⟨rfl, lk, sk, by rw [show callsOf m m = m from if_neg hlt]; exact hIk, hbel⟩

end Go.Proofs.Ybulkrku
