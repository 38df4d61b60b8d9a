import Derived.Test.YbulkrkuFmtBufO
import Derived.Laws.CopyOwn
import Derived.Lib.SliceRun
import Derived.Deep.QuietTactic
import Derived.BigQuiet
import Derived.BigRegion
namespace Go.Proofs.YbulkrkuFmt
open Go.RowKit

theorem info9 : (Ybaf.prog.info? 9).map (fun i => (i.zero, i.size, i.bytes)) = some (some (.string ⟨#[]⟩), 1, 16) := by kernel_rfl
theorem size9 : (Ybaf.prog.info? 9).map (·.size) = some 1 := by kernel_rfl

/-- a slice of strings, as it lies in w -/
def StrsIs (w : World) (B : Nat) (a : Option Addr) (n : Nat) (S : Nat → ByteArray) : Prop :=
  n = 0 ∨ ∃ b off, b < B ∧ a = some ⟨b, off, none⟩ ∧ ∀ i, i < n → w.cell? ⟨b, off + i, none⟩ = some (.string (S i))
theorem StrsIs.below {w w' : World} {B : Nat} {a : Option Addr} {n : Nat} {S : Nat → ByteArray} (h : StrsIs w B a n S) (hb : Below B w w') : StrsIs w' B a n S := by
  rcases h with h | ⟨b, off, h1, h2, h3⟩
  · exact .inl h
  · exact .inr ⟨b, off, h1, h2, fun i hi => (hb.cell (p := ⟨b, off + i, none⟩) h1).trans (h3 i hi)⟩
theorem StrsIs.mono {w : World} {B B' : Nat} {a : Option Addr} {n : Nat} {S : Nat → ByteArray} (h : StrsIs w B a n S) (hb : B ≤ B') : StrsIs w B' a n S := by
  rcases h with h | ⟨b, off, h1, h2, h3⟩
  · exact .inl h
  · exact .inr ⟨b, off, by omega, h2, h3⟩

/-- how many bytes the first k strings have -/
def tot (S : Nat → ByteArray) : Nat → Nat
  | 0 => 0
  | k + 1 => tot S k + (S k).size
theorem tot_mono (S : Nat → ByteArray) : ∀ {a b : Nat}, a ≤ b → tot S a ≤ tot S b := by
  intro a b h
  induction b with
  | zero => obtain rfl : a = 0 := by omega
            exact Nat.le_refl _
  | succ b ih =>
    by_cases e : a = b + 1
    · subst e; exact Nat.le_refl _
    · exact Nat.le_trans (ih (by omega)) (by show tot S b ≤ tot S b + (S b).size; omega)
theorem tot_one (S : Nat → ByteArray) {i n : Nat} (h : i < n) : (S i).size ≤ tot S n := by
  have h1 : tot S (i + 1) = tot S i + (S i).size := rfl
  have := tot_mono S (show i + 1 ≤ n from h)
  omega

def TooPost (w : World) (n : Nat) (S : Nat → ByteArray) (e : Ending) (w' : World) : Prop := ∃ b, e = .returned (.bool b) ∧ w = w' ∧ (b = false → n ≤ 1024 ∧ tot S n ≤ 1048576)

set_option maxHeartbeats 400000 in
theorem toolong_any (xa : Option Addr) (n xc B : Nat) (S : Nat → ByteArray) (w : World) (hS : StrsIs w B xa n S) (hz : ∀ i, i < n → (S i).size ≤ 140737488351232) :
    Calls Ybaf.prog 6 #[.slice xa n xc] w fun e w' => TooPost w n S e w' := by
  by_cases hn : 1024 < n
  · have t1 : decide (1024 < (n : Int)) = true := by simp; omega
    go_enter Ybaf.func6, Ybaf.ntmps6
    go_wp2
    go_ret
    exact ⟨true, rfl, rfl, fun h => by cases h⟩
  · have t1 : decide (1024 < (n : Int)) = false := by simp; omega
    go_enter Ybaf.func6, Ybaf.ntmps6
    go_wp2
    go_loop [3, 4] (fun t i => ∃ k : Nat, k ≤ n ∧ i = .int .i64 k ∧ t = .int .i64 (tot S k) ∧ tot S k ≤ 1048576) (fun _ i => n - (intOf i).toNat)
    case atStart => exact ⟨0, Nat.zero_le _, rfl, rfl, by simp [tot]⟩
    case round =>
      obtain ⟨k, hk, rfl, rfl, ht⟩ := hrel
      by_cases hlt : k < n
      · rcases hS with h0 | ⟨b, off, hb, rfl, hc⟩
        · omega
        have hck := hc k hlt
        have hzk := hz k hlt
        have HT : Hid (tot S (k + 1) = tot S k + (S k).size) := rfl
        clear hc
        by_cases hbig : 1048576 < tot S k + (S k).size
        · go_wp2
          go_ret
          exact ⟨true, rfl, rfl, fun h => by cases h⟩
        · go_wp2
          go_round
          case rel => exact ⟨k + 1, by omega, by go_num, by rw [HT.out]; go_num, by rw [HT.out]; omega⟩
          case measure => simp [intOf]; omega
      · obtain rfl : k = n := by omega
        go_wp2
        go_ret
        exact ⟨false, rfl, rfl, fun _ => ⟨by omega, ht⟩⟩

/-- 'bytes.Equal' at two slices of the same bytes -/
theorem equal_any (v1 v2 : Value) (s : ByteArray) (w : World) (h1 : (convert 22 9 v1).run Ybaf.prog w = .ok (.string s) w) (h2 : (convert 22 9 v2).run Ybaf.prog w = .ok (.string s) w) :
    Calls Ybaf.prog 10 #[v1, v2] w fun e w' => e = .returned (.bool true) ∧ w = w' := by
  go_enter Ybaf.func10, Ybaf.ntmps10
  go_wp2
  go_ret
  exact ⟨by simp, rfl⟩

set_option maxHeartbeats 400000 in
theorem same_any (xa ya : Option Addr) (n xc yc B B' : Nat) (S : Nat → ByteArray) (w : World) (hn : n ≤ 1024) (hX : StrsIs w B xa n S) (hY : StrsIs w B' ya n S) (hnil : xa.isNone = ya.isNone) :
    Calls Ybaf.prog 11 #[.slice xa n xc, .slice ya n yc] w fun e w' => e = .returned (.bool true) ∧ ∃ m, w' = w.drewN m := by
  have e1 := fun w' => Lib.run_eql_slice_nil (P := Ybaf.prog) w' 23 9 xa n xc 0 0 Ybaf.underlying23
  have e2 := fun w' => Lib.run_eql_slice_nil (P := Ybaf.prog) w' 23 9 ya n yc 0 0 Ybaf.underlying23
  rw [hnil] at e1
  clear hnil
  go_enter Ybaf.func11, Ybaf.ntmps11
  go_wp2
  go_loopw [5] (fun i wr => ∃ k m : Nat, k ≤ n ∧ i = .int .i64 k ∧ w.drewN m = wr) (fun i _ => n - (intOf i).toNat)
  case atStart => exact ⟨0, 0, Nat.zero_le _, rfl, rfl⟩
  case round =>
    obtain ⟨k, m, hk, rfl, rfl⟩ := hrel
    by_cases hlt : k < n
    · rcases hX with h0 | ⟨b, off, hb, rfl, hc⟩
      · omega
      rcases hY with h0 | ⟨b', off', hb', rfl, hc'⟩
      · omega
      have g1 := hc k hlt
      have g2 := hc' k hlt
      have i0 : (0 : Int) ≤ (k : Int) := Int.natCast_nonneg _
      have i1 : (k : Int) < (n : Int) := by omega
      clear hc hc'
      go_wp2_with fail
      go_quiet (fail)
      go_wp2
      go_roundw
      case rel => exact ⟨k + 1, m + nq, by omega, by go_num, by simp [World.drewN]⟩
      case measure => simp [intOf]; omega
    · go_wp2
      go_ret
      exact ⟨rfl, m, rfl⟩
end Go.Proofs.YbulkrkuFmt
