import Derived.Test.YbulkrkuRows
import Derived.WalkKit
import Derived.WalkSpells
import Derived.WalkLawsBesides
namespace Go.Proofs.Ybulkrku
open Go.RowKit

/-- m is the first place below n at which f says no, or n. -/
def IsMiss (f : Nat → Bool) (n m : Nat) : Prop := m ≤ n ∧ (∀ j, j < m → f j = true) ∧ (m < n → f m = false)

theorem isMiss_exists (f : Nat → Bool) : ∀ n, ∃ m, IsMiss f n m := by
  intro n
  induction n with
  | zero => exact ⟨0, Nat.le_refl _, fun j hj => by omega, fun h => by omega⟩
  | succ n ih =>
    obtain ⟨m, h1, h2, h3⟩ := ih
    by_cases hm : m < n
    · exact ⟨m, by omega, h2, fun _ => h3 hm⟩
    · obtain rfl : m = n := by omega
      cases hf : f m with
      | false => exact ⟨m, by omega, h2, fun _ => hf⟩
      | true => exact ⟨m + 1, by omega, fun j hj => by
          by_cases h : j = m
          · rw [h]; exact hf
          · exact h2 j (by omega), fun h => by omega⟩

/-- what the place answers at step j -/
def ansAt (g : Nat → Bool) (al : Nat) (j : Nat) : Bool := if j < al then g j else true

/-- the answers, as they lie in w -/
def AnsIs (w : World) (B : Nat) (a : Option Addr) (al : Nat) (g : Nat → Bool) : Prop :=
  al = 0 ∨ ∃ b off, b < B ∧ a = some ⟨b, off, none⟩ ∧ ∀ i, i < al → w.cell? ⟨b, off + i, none⟩ = some (.bool (g i))

theorem AnsIs.below {w w' : World} {B : Nat} {a : Option Addr} {al : Nat} {g : Nat → Bool} (h : AnsIs w B a al g) (hb : Below B w w') : AnsIs w' B a al g := by
  rcases h with h | ⟨b, off, h1, h2, h3⟩
  · exact .inl h
  · exact .inr ⟨b, off, h1, h2, fun i hi => (hb.cell (p := ⟨b, off + i, none⟩) h1).trans (h3 i hi)⟩

set_option maxHeartbeats 400000 in
theorem model_any (n : Nat) (a : Option Addr) (al ac : Nat) (g : Nat → Bool) (w : World) (hn : n ≤ 1024) (hal : al ≤ 1024) (m B : Nat) (hA : AnsIs w B a al g) (hm : IsMiss (ansAt g al) n m) :
    Calls Yba.prog 8 #[.int .i64 n, .slice a al ac] w fun e w' => e = .returned (.int .i64 m) ∧ w' = w := by
  obtain ⟨hm1, hm2, hm3⟩ := hm
  have Hm2 : Hid (∀ j, j < m → ansAt g al j = true) := hm2
  have Hm3 : Hid (m < n → ansAt g al m = false) := hm3
  clear hm2 hm3
  go_enter Yba.func8, Yba.ntmps8
  go_wp2
  go_loop [5] (fun i => ∃ k : Nat, k ≤ m ∧ i = .int .i64 k) (fun i => n - (intOf i).toNat)
  case atStart => exact ⟨0, Nat.zero_le _, rfl⟩
  case round =>
    obtain ⟨k, hk, rfl⟩ := hrel
    by_cases hlt : k < n
    · by_cases hka : k < al
      · rcases hA with h0 | ⟨b, off, _, rfl, hc⟩
        · omega
        · have hck := hc k hka
          clear hc
          cases hg : g k with
          | true =>
            have hne : k ≠ m := fun e => by
              have := Hm3.out (by omega)
              rw [← e] at this
              simp [ansAt, hka, hg] at this
            rw [hg] at hck
            clear hg
            go_wp2
            go_round
            case rel => exact ⟨k + 1, by omega, by go_num⟩
            case measure => simp [intOf]; omega
          | false =>
            have he : ¬ k < m := fun h => by
              have := Hm2.out k h
              simp [ansAt, hka, hg] at this
            obtain rfl : k = m := by omega
            rw [hg] at hck
            clear hg
            go_wp2
            go_ret
            exact ⟨rfl, rfl⟩
      · have hne : k ≠ m := fun e => by
          have := Hm3.out (by omega)
          rw [← e] at this
          simp [ansAt, hka] at this
        go_wp2
        go_round
        case rel => exact ⟨k + 1, by omega, by go_num⟩
        case measure => simp [intOf]; omega
    · obtain rfl : k = n := by omega
      obtain rfl : m = k := by omega
      go_wp2
      go_ret
      exact ⟨rfl, rfl⟩

end Go.Proofs.Ybulkrku
