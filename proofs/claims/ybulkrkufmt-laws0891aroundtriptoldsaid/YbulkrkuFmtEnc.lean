import Derived.Test.YbulkrkuFmtSmall
namespace Go.Proofs.YbulkrkuFmt
open Go.RowKit

/-- the wire form of the first k strings -/
def encL (S : Nat → ByteArray) : Nat → List UInt8
  | 0 => []
  | k + 1 => encL S k ++ uv (S k).size ++ (S k).data.toList
def encAll (xa : Option Addr) (n : Nat) (S : Nat → ByteArray) : List UInt8 := if xa.isNone then uv 0 else uv (n + 1) ++ encL S n
theorem encL_length (S : Nat → ByteArray) : ∀ k, (encL S k).length ≤ 10 * k + tot S k
  | 0 => by simp [encL, tot]
  | k + 1 => by
    have h1 := encL_length S k
    have h2 := uv_le (S k).size
    have h3 : (S k).data.toList.length = (S k).size := by simp
    simp only [encL, tot, List.length_append, h3]
    omega

set_option maxRecDepth 100000 in
set_option maxHeartbeats 400000 in
theorem enc_any (base : Nat) (v : Value) (l : List UInt8) (xa : Option Addr) (n xc B : Nat) (S : Nat → ByteArray) (w : World) (hb : BufO w base v l) (hbase : base ≤ w.heap.size) (hl : l.length ≤ 1000000) (hn : n ≤ 1024) (ht : tot S n ≤ 1048576) (hB : B ≤ base) (hS : StrsIs w B xa n S) :
    Calls Ybaf.prog 9 #[v, .slice xa n xc] w fun e w' => ∃ v', e = .returned v' ∧ BufO w' base v' (l ++ encAll xa n S) ∧ Below base w w' ∧ Keep5 w w' := by
  obtain ⟨ba, bc, hbs⟩ := hb.shape
  subst hbs
  have e1 := fun w' => Lib.run_eql_slice_nil (P := Ybaf.prog) w' 23 9 xa n xc 0 0 Ybaf.underlying23
  cases hx : xa with
  | none =>
    subst hx
    simp only [Option.isNone_none] at e1
    go_enter Ybaf.func9, Ybaf.ntmps9
    go_wp2_with fail
    refine (appendUv_any base _ l 0 _ (show 0 < 128 ^ 10 by omega) hb hbase (by omega)).mono ?_
    rintro e w1 ⟨v1, rfl, hb1, hbel1, hk1⟩
    go_wp2
    go_ret
    exact ⟨v1, rfl, by simpa [encAll] using hb1, hbel1, hk1⟩
  | some x0 =>
    subst hx
    simp only [Option.isNone_some] at e1
    go_enter Ybaf.func9, Ybaf.ntmps9
    go_wp2_with fail
    rw [show ((n : Int) + 1) = ((n + 1 : Nat) : Int) by omega]
    refine (appendUv_any base _ l (n + 1) _ (show n + 1 < 128 ^ 10 by omega) hb hbase (by omega)).mono ?_
    rintro e w1 ⟨v1, rfl, hb1, hbel1, hk1⟩
    go_wp2_with fail
    have hk1' : Hid (Keep5 w w1) := hk1
    clear hk1
    go_loopw [0, 5] (fun b i wr => ∃ k : Nat, k ≤ n ∧ i = .int .i64 k ∧ BufO wr base b (l ++ uv (n + 1) ++ encL S k) ∧ Below base w wr ∧ Hid (Keep5 w wr)) (fun _ i _ => n - (intOf i).toNat)
    case atStart => exact ⟨0, Nat.zero_le _, rfl, by simpa [encL] using hb1, hbel1, hk1'⟩
    case round =>
      obtain ⟨k, hk, rfl, hbr, hbelr, hkr⟩ := hrel
      clear hb1 hbel1 hk1'
      obtain ⟨ca, cc, hcs⟩ := hbr.shape
      subst hcs
      have hszr : base ≤ wr.heap.size := Nat.le_trans hbase hbelr.size
      have hlen := encL_length S k
      have htk := tot_mono S hk
      have hu1 := uv_le (n + 1)
      by_cases hlt : k < n
      · rcases (hS.below (hbelr.mono hB)) with h0 | ⟨b, off, hbb, hxx, hc⟩
        · omega
        obtain rfl := Option.some.inj hxx
        have hck := hc k hlt
        have hzk := tot_one S hlt
        clear hc
        have hL : (l ++ uv (n + 1) ++ encL S k).length ≤ 1000000 + 10 + (10 * 1024 + 1048576) := by simp only [List.length_append]; omega
        generalize hdn : l ++ uv (n + 1) ++ encL S k = done at hbr hL
        have HD : Hid (l ++ uv (n + 1) ++ encL S (k + 1) = done ++ uv (S k).size ++ (S k).data.toList) := by
          show _ = _
          rw [← hdn, encL]
          simp only [List.append_assoc]
        clear hdn
        go_wp2_with fail
        refine (appendUv_any base _ done (S k).size _ (show (S k).size < 128 ^ 10 by omega) hbr hszr (by omega)).mono ?_
        rintro e w2 ⟨v2, rfl, hb2, hbel2, hk2⟩
        have hck2 := hck
        rw [← hbel2.cell (p := ⟨b, off + k, none⟩) (by show b < base; omega)] at hck2
        have hu2 := uv_le (S k).size
        have hL2 : (done ++ uv (S k).size).length ≤ 1000000 + 10 + (10 * 1024 + 1048576) + 10 := by simp only [List.length_append]; omega
        have HD2 : Hid (l ++ uv (n + 1) ++ encL S (k + 1) = (done ++ uv (S k).size) ++ (S k).data.toList) := HD
        clear HD
        generalize done ++ uv (S k).size = mid at hb2 hL2 HD2
        obtain ⟨da, dc, hds⟩ := hb2.shape
        subst hds
        have hk2' : Hid (Keep5 wr w2) := hk2
        clear hk2 hck
        go_wp2_with (at_builtin; go_must (refine wpList_append_bufO_string _ rfl _ _ rfl base _ mid rfl hb2 (S k) rfl (by omega) (Nat.le_trans hszr hbel2.size) ?_; intro v3 w3 hb3 hg3))
        go_roundw
        case rel => exact ⟨k + 1, by omega, by go_num, by rw [HD2.out]; exact hb3, (hbelr.trans hbel2).grown hg3 (Nat.le_trans hszr hbel2.size) (fun j hj => (World.ownsRow.lt hb2 j hj).1), (hkr.out.trans hk2'.out).grown hb2 hg3⟩
        case measure => simp [intOf]; omega
      · obtain rfl : k = n := by omega
        go_wp2
        go_ret
        exact ⟨_, rfl, by simpa [encAll, List.append_assoc] using hbr, hbelr, hkr⟩
end Go.Proofs.YbulkrkuFmt
