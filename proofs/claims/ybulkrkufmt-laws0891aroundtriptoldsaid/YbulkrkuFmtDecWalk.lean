import Derived.Test.YbulkrkuFmtStringsD
import Derived.Test.YbulkrkuFmtEncWalk
namespace Go.Proofs.YbulkrkuFmt
open Go.RowKit

theorem BufO.bv {w : World} {B : Nat} {v : Value} {l : List UInt8} (h : BufO w B v l) (hl : 0 < l.length) : ∃ g cs cap, v = .slice (some ⟨g, 0, none⟩) l.length cap ∧ w.heap[g]? = some (.cells cs 5 (0, 0)) ∧ BV g cs v l := by
  rcases h.2 with ⟨_, h0⟩ | ⟨g, cap, cur, rfl, _, hg, hle, hm, _, htk⟩
  · omega
  · refine ⟨g, cur, cap, rfl, hg, 0, cap, rfl, hle, hm, fun j u hu => ?_⟩
    rw [← htk] at hu
    rw [List.getElem?_take] at hu
    split at hu
    · simpa using hu
    · cases hu
theorem encAll_eq (xa : Option Addr) (n : Nat) (S : Nat → ByteArray) : encAll xa n S = if xa.isSome then uv (n + 1) ++ encL S n else uv 0 := by
  cases xa <;> simp [encAll]
theorem encAll_pos (xa : Option Addr) (n : Nat) (S : Nat → ByteArray) : 0 < (encAll xa n S).length := by
  have h1 := uv_pos 0
  have h2 := uv_pos (n + 1)
  unfold encAll
  split
  · exact h1
  · rw [List.length_append]; omega
theorem encAll_le (xa : Option Addr) (n : Nat) (S : Nat → ByteArray) (hn : n ≤ 1024) (ht : tot S n ≤ 1048576) : (encAll xa n S).length ≤ 2000000 := by
  have h1 := uv_le 0
  have h2 := uv_le (n + 1)
  have h3 := encL_length S n
  unfold encAll
  split
  · omega
  · rw [List.length_append]; omega

theorem decLong (pa : Option Addr) (pn pc : Nat) (xv : Value) (w : World) (hp : 4096 < pn) :
    Calls Ybaf.prog 4 #[xv, .slice pa pn pc] w fun e w' => LawPost w e w' := by
  have t1 : decide (4096 < (pn : Int)) = true := by simp; omega
  go_enter Ybaf.func4, Ybaf.ntmps4
  go_wp2
  go_ret
  exact ⟨rfl, Below.refl _ _⟩

set_option maxHeartbeats 400000 in
theorem decLaw_any (pa xa : Option Addr) (pn pc n xc : Nat) (pl : List UInt8) (S : Nat → ByteArray) (w : World) (hp : pn ≤ 4096) (hP : ArgBytes w w.heap.size pa pn pc pl) (hS : StrsIs w w.heap.size xa n S) (hz : ∀ i, i < n → (S i).size ≤ 140737488351232) :
    Calls Ybaf.prog 4 #[.slice xa n xc, .slice pa pn pc] w fun e w' => LawPost w e w' := by
  have t1 : decide (4096 < (pn : Int)) = false := by simp; omega
  go_enter Ybaf.func4, Ybaf.ntmps4
  go_wp2_with fail
  refine (toolong_any xa n xc w.heap.size S _ hS hz).mono ?_
  rintro e w1 ⟨b, rfl, rfl, hb⟩
  cases b with
  | true =>
    go_wp2
    go_ret
    exact ⟨rfl, Below.refl _ _⟩
  | false =>
    obtain ⟨hn, ht⟩ := hb rfl
    clear hb
    have hn0 : xa.isSome = false → n = 0 := fun h => by
      rcases hS with h0 | ⟨b, off, _, rfl, _⟩
      · exact h0
      · simp at h
    have hel := encAll_le xa n S hn ht
    have hep := encAll_pos xa n S
    go_wp2_with fail
    refine (enc_any w.heap.size _ [] xa n xc w.heap.size S w (BufO.nil _ _) (Nat.le_refl _) (by simp) hn ht (Nat.le_refl _) hS).mono ?_
    rintro e w1 ⟨v1, rfl, hb1, hbel1, _⟩
    rw [List.nil_append] at hb1
    have heq := encAll_eq xa n S
    generalize encAll xa n S = E at *
    obtain ⟨a1, p1, hs1⟩ := hb1.shape
    subst hs1
    have hB1 := hbel1.size
    have hP1 := hP.below hbel1
    have HB1 : Hid (Below w.heap.size w w1) := hbel1
    have HE : Hid (E = if xa.isSome then uv (n + 1) ++ encL S n else uv 0) := heq
    clear hbel1 heq
    obtain ⟨full, HF⟩ : ∃ full, Hid (full = E ++ pl) := ⟨E ++ pl, rfl⟩
    have hfl : full.length = E.length + pn := by rw [HF.out, List.length_append, hP.1]
    go_wp2_with (at_builtin; go_must (refine wpList_append_arg _ rfl _ _ rfl w.heap.size _ E rfl hb1 w.heap.size pa pn pc pl rfl hP1 (by omega) hB1 ?_; intro v2 w2 hb2 hg2; rw [← HF.out] at hb2; obtain ⟨g, cs, cap, hv2, hgb, hbv⟩ := hb2.bv (by omega); subst hv2))
    have hbel2 : Below w.heap.size w w2 := HB1.out.grown hg2 hB1 (fun j hj => (World.ownsRow.lt hb1 j hj).1)
    have hB2 := hbel2.size
    have hbel3 : Hid (Below w.heap.size w ((w2.alloc (.cells #[.slice (some ⟨g, 0, none⟩) (E.length + pn) cap, .bool true, .nilIface, .string ⟨#[]⟩] 30)).alloc (.cells #[.slice none 0 0] 23))) := (hbel2.alloc hB2 _).alloc (by simp; omega) _
    rw [hfl] at hbv
    have hC3 := block_old (block_new w2 (.cells #[.slice (some ⟨g, 0, none⟩) (E.length + pn) cap, .bool true, .nilIface, .string ⟨#[]⟩] 30)) (.cells #[.slice none 0 0] 23)
    have hV3 := block_at (show (w2.alloc (.cells #[.slice (some ⟨g, 0, none⟩) (E.length + pn) cap, .bool true, .nilIface, .string ⟨#[]⟩] 30)).heap.size = w2.heap.size + 1 by simp) (.cells #[.slice none 0 0] 23)
    have hg3 := block_old (block_old hgb (.cells #[.slice (some ⟨g, 0, none⟩) (E.length + pn) cap, .bool true, .nilIface, .string ⟨#[]⟩] 30)) (.cells #[.slice none 0 0] 23)
    clear hg2 hb2 hb1 hgb HB1 hP1
    generalize hM : w2.heap.size = M at *
    generalize (w2.alloc (.cells #[.slice (some ⟨g, 0, none⟩) (E.length + pn) cap, .bool true, .nilIface, .string ⟨#[]⟩] 30)).alloc (.cells #[.slice none 0 0] 23) = w3 at *
    refine (stringsD_any w.heap.size M (M + 1) g n xa.isSome cs _ pl full S w3 hC3 hV3 hg3 (by rw [HF.out, HE.out]; rfl) hbv (by omega) (by omega) hbel3.out.size hn hn0 (by omega)).mono ?_
    rintro e w4 ⟨rfl, ⟨bv4, hb4, hC4⟩, ⟨ya, hya, hL4⟩, hg4, hbel4⟩
    have hB4 : Hid (Below w.heap.size w w4) := hbel3.out.trans hbel4
    have hBm : ∀ m, Below w.heap.size w (w4.drewN m) := fun m => ⟨hB4.out.os, hB4.out.tape, hB4.out.output, hB4.out.size, hB4.out.block⟩
    have q1 := fun m => hb4.str (w := w4.drewN m) hg4
    have q2 := fun m => (hP.below (hBm m)).str
    have hS4 := hS.below hB4.out
    obtain ⟨off4, cap4, rfl, _⟩ := hb4
    have hyx : ya.isNone = xa.isNone := by rw [hya]; cases xa <;> rfl
    have d0 := cell_at (i := 0) hC4 rfl
    have d2 := cell_at (i := 2) hC4 rfl
    have d3 := cell_at (i := 3) hC4 rfl
    have y0 := cell_at (i := 0) hL4.1 rfl
    have hY : StrsIs w4 w4.heap.size ya n S := by
      rcases hL4.2 with ⟨_, h⟩ | ⟨g, rfl, hg⟩
      · exact .inl h
      · exact strsIs_of_block hg _ (lt_of_block hg)
    clear hbel4 hbel3 hC3 hV3 hg3 hbv hbel2 hya
    go_wp2_with fail
    refine (same_any ya xa n n xc _ _ S w4 hn hY hS4 hyx).mono ?_
    rintro e w5 ⟨rfl, m, rfl⟩
    go_wp2_with fail
    refine (equal_any _ _ ⟨pl.toArray⟩ _ (q1 m) (q2 m)).mono ?_
    rintro e w6 ⟨rfl, rfl⟩
    go_wp2
    go_ret
    exact ⟨rfl, hBm m⟩
end Go.Proofs.YbulkrkuFmt
