import Derived.Test.YbulkrqeRep
import Derived.Laws.CopyOwn
namespace Go.Proofs.Ybulkrqe
open Go.RowKit

def LawPost (w : World) (e : Ending) (w' : World) : Prop := e = .returned (.bool true) ∧ Below w.heap.size w w'

theorem match_long0 (pa la sa : Option Addr) (pn pc ln lc sn sc : Nat) (nl : Bool) (w : World) (h : 1024 < pn ∨ 1024 < ln ∨ 1024 < sn) :
    Calls Yba.prog 4 #[.slice pa pn pc, .slice la ln lc, .slice sa sn sc, .bool nl] w fun e w' => LawPost w e w' := by
  by_cases h1 : 1024 < pn
  · have t1 : decide (1024 < (pn : Int)) = true := by simp; omega
    go_enter Yba.func4, Yba.ntmps4
    go_wp2
    go_ret
    exact ⟨rfl, Below.refl _ _⟩
  · have t1 : decide (1024 < (pn : Int)) = false := by simp; omega
    by_cases h2 : 1024 < ln
    · have t2 : decide (1024 < (ln : Int)) = true := by simp; omega
      go_enter Yba.func4, Yba.ntmps4
      go_wp2
      go_ret
      exact ⟨rfl, Below.refl _ _⟩
    · have t2 : decide (1024 < (ln : Int)) = false := by simp; omega
      have t3 : decide (1024 < (sn : Int)) = true := by simp; omega
      go_enter Yba.func4, Yba.ntmps4
      go_wp2
      go_ret
      exact ⟨rfl, Below.refl _ _⟩

theorem BufO.empty (w : World) (B : Nat) (hB : B ≤ w.heap.size) : BufO (w.alloc (.cells #[] 5)) B (.slice (some ⟨w.heap.size, 0, none⟩) 0 0) [] :=
  ⟨rfl, .inr ⟨w.heap.size, 0, #[], rfl, hB, block_new _ _, Nat.le_refl _, Nat.zero_le _, rfl, rfl⟩⟩
theorem BufO.shapeN {w : World} {base : Nat} {v : Value} {l : List UInt8} (h : BufO w base v l) (hn : NonNil v) : ∃ g cap, v = .slice (some ⟨g, 0, none⟩) l.length cap ∧ l.length ≤ cap := by
  rcases h.2 with ⟨rfl, _⟩ | ⟨g, cap, cur, rfl, _, _, hle, _⟩
  · obtain ⟨_, _, _, e⟩ := hn
    simp at e
  · exact ⟨g, cap, rfl, hle⟩
theorem BufO.shapeM {w : World} {base n : Nat} {v : Value} {l : List UInt8} (h : BufO w base v l) (hn : NonNil v) (hl : l.length = n) : ∃ g cap, v = .slice (some ⟨g, 0, none⟩) n cap ∧ n ≤ cap := by
  subst hl
  exact h.shapeN hn
theorem quote_arg (w : World) : ArgBytes (w.alloc (.cells #[.int .u8 34] 5)) (w.heap.size + 1) (some ⟨w.heap.size, 0, none⟩) 1 1 [34] :=
  ⟨rfl, .inr ⟨_, rfl, fun _ => Nat.lt_succ_self _, fun j u hu => news_one (u := 34) rfl j u hu⟩⟩

theorem rep_hit' (C g cap lcap base base' pn ln n : Nat) (la : Addr) (pre mid suf full : List UInt8) (w : World) (hf : full = pre ++ (34 :: (mid ++ (34 :: suf)))) (hp : pre.length = pn) (hm : mid.length = ln) (hn : full.length = n)
    (hC : w.heap[C]? = some (.cells #[.slice (some ⟨g, 0, none⟩) n cap, .int .i64 pn] 28 (0, 0))) (hb : BufO w base (.slice (some ⟨g, 0, none⟩) n cap) full) (hl : BufO w base' (.slice (some la) ln lcap) mid) (hcap : n ≤ cap) (hlen : n ≤ 10000) :
    Calls Yba.prog 6 #[.pointer (some ⟨C, 0, none⟩), .slice (some la) ln lcap] w fun e w' => RepPost w C (pn + ln + 2) e w' := by
  subst hf hp hm hn
  exact rep_hit C g cap lcap base base' la pre mid suf w hC hb hl hcap hlen

set_option maxHeartbeats 400000 in
theorem match_any (pa la sa : Option Addr) (pn pc ln lc sn sc : Nat) (pre mid suf : List UInt8) (nl : Bool) (w : World) (h1 : pn ≤ 1024) (h2 : ln ≤ 1024) (h3 : sn ≤ 1024)
    (hP : ArgBytes w w.heap.size pa pn pc pre) (hL : ArgBytes w w.heap.size la ln lc mid) (hS : ArgBytes w w.heap.size sa sn sc suf) :
    Calls Yba.prog 4 #[.slice pa pn pc, .slice la ln lc, .slice sa sn sc, .bool nl] w fun e w' => LawPost w e w' := by
  have t1 : decide (1024 < (pn : Int)) = false := by simp; omega
  have t2 : decide (1024 < (ln : Int)) = false := by simp; omega
  have t3 : decide (1024 < (sn : Int)) = false := by simp; omega
  obtain ⟨i5, hi, hz0, hz1, hz2⟩ := info_parts info5
  go_enter Yba.func4, Yba.ntmps4
  have hml := hL.1
  have hpl := hP.1
  have hsl := hS.1
  obtain ⟨L1, HL1⟩ : ∃ L, Hid (L = pre ++ [34]) := ⟨pre ++ [34], rfl⟩
  obtain ⟨L2, HL2⟩ : ∃ L, Hid (L = L1 ++ mid) := ⟨L1 ++ mid, rfl⟩
  obtain ⟨L3, HL3⟩ : ∃ L, Hid (L = L2 ++ [34]) := ⟨L2 ++ [34], rfl⟩
  obtain ⟨L4, HL4⟩ : ∃ L, Hid (L = L3 ++ suf) := ⟨L3 ++ suf, rfl⟩
  have hl1 : L1.length = pn + 1 := by rw [HL1.out]; simp; omega
  have hl2 : L2.length = pn + 1 + ln := by rw [HL2.out]; simp; omega
  have hl3 : L3.length = pn + 2 + ln := by rw [HL3.out]; simp; omega
  have hl4 : L4.length = pn + 2 + ln + sn := by rw [HL4.out]; simp; omega
  go_wp2_with first | (at_builtin; refine wpList_append_arg _ rfl _ _ rfl w1.heap.size _ _ rfl hb6 ⟨_, _, _, rfl⟩ w.heap.size sa sn sc suf rfl ((hS).below (hbel1.out.trans (hbel6.out.mono hB1))) (by first | omega | (simp; omega)) (by first | omega | (simp; omega)) ?_; intro v7 w7 hb7 hn7 hg7; rw [← HL4.out] at hb7; obtain ⟨g7, cap7, hv7, hc7⟩ := hb7.shapeM hn7 hl4; subst hv7; have hbel7 : Hid (Below w1.heap.size w1 w7) := hbel6.out.grown hg7 (by first | omega | (simp; omega)) (fun k hk => (World.ownsRow.lt hb6 k hk).1); have hz7 := hbel7.out.size; clear hg7 hn7 hb6 hbel6) | (at_builtin; refine wpList_append_arg _ rfl _ _ rfl w1.heap.size _ _ rfl (hb5.alloc _) ⟨_, _, _, rfl⟩ (w5.heap.size + 1) (some ⟨w5.heap.size, 0, none⟩) 1 1 [34] rfl (quote_arg w5) (by first | omega | (simp; omega)) (by first | omega | (simp; omega)) ?_; intro v6 w6 hb6 hn6 hg6; rw [← HL3.out] at hb6; obtain ⟨g6, cap6, hv6, hc6⟩ := hb6.shapeM hn6 hl3; subst hv6; have hbel6 : Hid (Below w1.heap.size w1 w6) := (hbel5.out.alloc hz5 _).grown hg6 (by first | omega | (simp; omega)) (fun k hk => (World.ownsRow.lt hb5 k hk).1); have hz6 := hbel6.out.size; clear hg6 hn6 hb5 hbel5) | (at_builtin; refine wpList_append_arg _ rfl _ _ rfl w1.heap.size _ _ rfl hb4 ⟨_, _, _, rfl⟩ w4.heap.size (some ⟨lg, 0, none⟩) ln lcap mid rfl (BufO.newer hb1 hbel4.out).arg (by first | omega | (simp; omega)) (by first | omega | (simp; omega)) ?_; intro v5 w5 hb5 hn5 hg5; rw [← HL2.out] at hb5; obtain ⟨g5, cap5, hv5, hc5⟩ := hb5.shapeM hn5 hl2; subst hv5; have hbel5 : Hid (Below w1.heap.size w1 w5) := hbel4.out.grown hg5 (by first | omega | (simp; omega)) (fun k hk => (World.ownsRow.lt hb4 k hk).1); have hz5 := hbel5.out.size; clear hg5 hn5 hb4 hbel4) | (at_builtin; refine wpList_append_arg _ rfl _ _ rfl w1.heap.size _ _ rfl (hb3.alloc _) ⟨_, _, _, rfl⟩ (w3.heap.size + 1) (some ⟨w3.heap.size, 0, none⟩) 1 1 [34] rfl (quote_arg w3) (by first | omega | (simp; omega)) (by first | omega | (simp; omega)) ?_; intro v4 w4 hb4 hn4 hg4; rw [← HL1.out] at hb4; obtain ⟨g4, cap4, hv4, hc4⟩ := hb4.shapeM hn4 hl1; subst hv4; have hbel4 : Hid (Below w1.heap.size w1 w4) := (hbel3.out.alloc hz3 _).grown hg4 (by first | omega | (simp; omega)) (fun k hk => (World.ownsRow.lt hb3 k hk).1); have hz4 := hbel4.out.size; clear hg4 hn4 hb3 hbel3) | (at_builtin; (refine wpList_append_arg _ rfl _ _ rfl w1.heap.size _ _ rfl hb2 ⟨_, _, _, rfl⟩ w.heap.size pa pn pc pre rfl ((hP).below (hbel1.out.trans (hbel2.out.mono hB1))) (by first | omega | (simp; omega)) (by first | omega | (simp; omega)) ?_; intro v3 w3 hb3 hn3 hg3; rw [List.nil_append] at hb3; obtain ⟨g3, cap3, hv3, hc3⟩ := hb3.shapeM hn3 hpl; subst hv3; have hbel3 : Hid (Below w1.heap.size w1 w3) := hbel2.out.grown hg3 (by first | omega | (simp; omega)) (fun k hk => (World.ownsRow.lt hb2 k hk).1); have hz3 := hbel3.out.size; clear hg3 hn3 hb2 hbel2)) | (at_make; refine wpList_make_own _ rfl _ _ 22 rfl w1.heap.size 5 i5 _ 1 Yba.underlying22 hi hz0 hz1 .i64 .i64 _ (pn + ln + sn + 2) rfl rfl (by omega) (by rw [hz2]; omega) (by unfold maxLen; omega) (Nat.le_refl _) ?_; intro w2 hown2 hg2; have hb2 : BufO w2 w1.heap.size (.slice (some ⟨w1.heap.size, 0, none⟩) 0 (pn + ln + sn + 2)) [] := hown2; have hbel2 : Hid (Below w1.heap.size w1 w2) := (Below.refl _ _).grown hg2 (Nat.le_refl _) (fun k hk => by cases hk); have hz2 := hbel2.out.size; clear hown2 hg2) | (at_builtin; refine wpList_append_arg _ rfl _ _ rfl w.heap.size _ [] rfl (BufO.empty w _ (Nat.le_refl _)) ⟨_, _, _, rfl⟩ w.heap.size la ln lc mid rfl (hL.below ((Below.refl _ _).alloc (Nat.le_refl _) _)) (by first | omega | (simp; omega)) (by simp) ?_; intro v1 w1 hb1 hn1 hg1; rw [List.nil_append] at hb1; obtain ⟨lg, lcap, hv1, _⟩ := hb1.shapeM hn1 hml; subst hv1; have hbel1 : Hid (Below w.heap.size w w1) := ((Below.refl _ _).alloc (Nat.le_refl _) _).grown hg1 (by simp) (fun k hk => (World.ownsRow.lt (BufO.empty w _ (Nat.le_refl _)) k hk).1); have hB1 := hbel1.out.size; clear hg1 hn1)
  · refine (rep_nil w7.heap.size g7 pn (pn + 2 + ln + sn) cap7 _ (block_new _ _) (by omega) (by omega)).mono ?_
    rintro e w8 ⟨rfl, m, rfl⟩
    have c1 := cell_at (i := 1) (block_new w7 (.cells #[.slice (some ⟨g7, 0, none⟩) (pn + 2 + ln + sn) cap7, .int .i64 pn] 28)) rfl
    have hbel8 : Hid (Below w.heap.size w w7) := hbel1.out.trans (hbel7.out.mono hB1)
    go_wp2_with fail
    go_ret
    refine ⟨rfl, ?_⟩
    have h9 := hbel8.out.alloc (by have := hbel8.out.size; omega) (.cells #[.slice (some ⟨g7, 0, none⟩) (pn + 2 + ln + sn) cap7, .int .i64 pn] 28)
    exact ⟨h9.os, h9.tape, h9.output, h9.size, h9.block⟩
  · have hfull : L4 = pre ++ (34 :: (mid ++ (34 :: suf))) := by rw [HL4.out, HL3.out, HL2.out, HL1.out]; simp
    refine (rep_hit' w7.heap.size g7 cap7 lcap w1.heap.size w.heap.size pn ln (pn + 2 + ln + sn) _ pre mid suf L4 _ hfull hpl hml hl4 (block_new _ _) (hb7.alloc _) ((BufO.newer hb1 hbel7.out).alloc _) hc7 (by omega)).mono ?_
    rintro e w8 ⟨rfl, c1, hbel8⟩
    have hbel9 : Hid (Below w.heap.size w w7) := hbel1.out.trans (hbel7.out.mono hB1)
    go_wp2_with fail
    go_ret
    refine ⟨rfl, ?_⟩
    exact (hbel9.out.alloc (by have := hbel9.out.size; omega) _).trans (hbel8.mono (by have := hbel9.out.size; omega))
end Go.Proofs.Ybulkrqe
