import Derived.Test.YbulkrkuBFol
import Derived.Test.YbulkrkuBSame
namespace Go.Proofs.Ybulkrku
open Go.RowKit
attribute [local go_sem] run_store_float
attribute [local go_sem ↓] Go.wp_at_zero Go.wp_at_succ

/-- what a round of the law's loop reads -/
def Sees (B gl gs b k off c cl cs : Nat) (d : Int) (f : Nat) (u m : Bool) (w : World) : Prop :=
  w.cell? ⟨B, 1, none⟩ = some (.slice (some ⟨gl, 0, none⟩) c cl) ∧ w.cell? ⟨gl, k, none⟩ = some (.int .i64 k) ∧ w.cell? ⟨B, 2, none⟩ = some (.slice (some ⟨gs, 0, none⟩) c cs) ∧
  w.cell? ⟨gs, k * 4, none⟩ = some (.int .i64 d) ∧ w.cell? ⟨gs, k * 4 + 1, none⟩ = some (.float .f64 f) ∧ w.cell? ⟨gs, k * 4 + 2, none⟩ = some (.bool u) ∧ w.cell? ⟨gs, k * 4 + 3, none⟩ = some (.bool m) ∧
  w.cell? ⟨b, off + k * 4, none⟩ = some (.int .i64 d) ∧ w.cell? ⟨b, off + k * 4 + 1, none⟩ = some (.float .f64 f) ∧ w.cell? ⟨b, off + k * 4 + 2, none⟩ = some (.bool u) ∧ w.cell? ⟨b, off + k * 4 + 3, none⟩ = some (.bool m)

theorem Sees.below {B gl gs b k off c cl cs N : Nat} {d : Int} {f : Nat} {u m : Bool} {w w' : World} (h : Sees B gl gs b k off c cl cs d f u m w) (hb : Below N w w') (h1 : B < N) (h2 : gl < N) (h3 : gs < N) (h4 : b < N) : Sees B gl gs b k off c cl cs d f u m w' := by
  obtain ⟨a0, a1, a2, a3, a4, a5, a6, a7, a8, a9, a10⟩ := h
  exact ⟨(hb.cell (p := ⟨B, 1, none⟩) h1).trans a0, (hb.cell (p := ⟨gl, k, none⟩) h2).trans a1, (hb.cell (p := ⟨B, 2, none⟩) h1).trans a2,
    (hb.cell (p := ⟨gs, k * 4, none⟩) h3).trans a3, (hb.cell (p := ⟨gs, k * 4 + 1, none⟩) h3).trans a4, (hb.cell (p := ⟨gs, k * 4 + 2, none⟩) h3).trans a5, (hb.cell (p := ⟨gs, k * 4 + 3, none⟩) h3).trans a6,
    (hb.cell (p := ⟨b, off + k * 4, none⟩) h4).trans a7, (hb.cell (p := ⟨b, off + k * 4 + 1, none⟩) h4).trans a8, (hb.cell (p := ⟨b, off + k * 4 + 2, none⟩) h4).trans a9, (hb.cell (p := ⟨b, off + k * 4 + 3, none⟩) h4).trans a10⟩

theorem levs_get {k c : Nat} (h : k < c) : (levs c)[k]? = some (.int .i64 k) := by simp [levs, h]
theorem stps_get (D : Nat → Int) (F : Nat → Nat) (U M : Nat → Bool) : ∀ {c k : Nat}, k < c → (stps D F U M c)[k * 4]? = some (.int .i64 (D k)) ∧ (stps D F U M c)[k * 4 + 1]? = some (.float .f64 (F k)) ∧ (stps D F U M c)[k * 4 + 2]? = some (.bool (U k)) ∧ (stps D F U M c)[k * 4 + 3]? = some (.bool (M k)) := by
  intro c
  have hl : ∀ n, (stps D F U M n).length = n * 4 := by
    intro n
    induction n with
    | zero => rfl
    | succ n ih => rw [stps_succ]; simp [ih]; omega
  induction c with
  | zero => intro k h; omega
  | succ c ih =>
    intro k h
    rw [stps_succ]
    by_cases hk : k < c
    · obtain ⟨a, b, d, e⟩ := ih hk
      refine ⟨?_, ?_, ?_, ?_⟩ <;> rw [List.getElem?_append_left (by rw [hl]; omega)] <;> assumption
    · obtain rfl : k = c := by omega
      refine ⟨?_, ?_, ?_, ?_⟩ <;> rw [List.getElem?_append_right (by rw [hl]; omega)] <;> simp [hl]

theorem own_shape {w : World} {base : Nat} {e : TypeId} {size : Nat} {v : Value} {n : Nat} {xs : List Value} (h : w.ownsRow base e size v n xs) : ∃ a cap, v = .slice a n cap := by
  rcases h.2 with ⟨rfl, rfl⟩ | ⟨g, cap, cur, rfl, _⟩
  · exact ⟨none, 0, rfl⟩
  · exact ⟨_, cap, rfl⟩

/-- what the round reads, out of what the place holds -/
theorem Sees.of {B : Nat} {aa : Option Addr} {al ac c k b off : Nat} {w : World} {lv sv : Value} {D : Nat → Int} {F : Nat → Nat} {U M : Nat → Bool} (h : Pl B aa al ac w lv sv c (levs c) (stps D F U M c)) (hk : k < c)
    (hp : w.cell? ⟨b, off + k * 4, none⟩ = some (.int .i64 (D k)) ∧ w.cell? ⟨b, off + k * 4 + 1, none⟩ = some (.float .f64 (F k)) ∧ w.cell? ⟨b, off + k * 4 + 2, none⟩ = some (.bool (U k)) ∧ w.cell? ⟨b, off + k * 4 + 3, none⟩ = some (.bool (M k))) :
    ∃ gl gs cl cs, lv = .slice (some ⟨gl, 0, none⟩) c cl ∧ sv = .slice (some ⟨gs, 0, none⟩) c cs ∧ gl < w.heap.size ∧ gs < w.heap.size ∧ Sees B gl gs b k off c cl cs (D k) (F k) (U k) (M k) w := by
  obtain ⟨gl, cl, hl, _, l1⟩ := h.lev.form (by omega)
  obtain ⟨gs, cs, hs, _, l2⟩ := h.stp.form (by omega)
  refine ⟨gl, gs, cl, cs, hl, hs, l1, l2, ?_⟩
  subst hl hs
  obtain ⟨s0, s1, s2, s3⟩ := stps_get D F U M hk
  have ad : ∀ g j, (⟨g, 0, none⟩ : Addr).add j = ⟨g, j, none⟩ := fun g j => by unfold Addr.add; split <;> simp_all
  have L := h.lev.cells (g := gl) rfl
  have S := h.stp.cells (g := gs) rfl
  simp only [ad] at L S
  exact ⟨cell_at h.blk rfl, L _ _ (levs_get hk), cell_at h.blk rfl, S _ _ s0, S _ _ s1, S _ _ s2, S _ _ s3, hp.1, hp.2.1, hp.2.2.1, hp.2.2.2⟩

set_option maxHeartbeats 800000 in
theorem law_any (pa aa : Option Addr) (n pc al ac : Nat) (D : Nat → Int) (F : Nat → Nat) (U M ga : Nat → Bool) (w : World)
    (hn : n ≤ 1024) (hal : al ≤ 1024) (hP : PathIs w w.heap.size pa n D F U M) (hA : AnsIs w w.heap.size aa al ga) :
    Calls Yba.prog 3 #[.slice pa n pc, .slice aa al ac] w fun e w' => e = .returned (.bool true) ∧ Below w.heap.size w w' := by
  obtain ⟨m, hm⟩ := isMiss_exists (ansAt ga al) n
  have hmn : m ≤ n := hm.1
  have HM : Hid (IsMiss (ansAt ga al) n m) := hm
  clear hm
  have hb0 : Below w.heap.size w (w.alloc (.cells #[.slice aa al ac, .slice none 0 0, .slice none 0 0] 27 (0, 0))) := (Below.refl _ _).alloc (Nat.le_refl _) _
  have hI0 : Pl w.heap.size aa al ac (w.alloc (.cells #[.slice aa al ac, .slice none 0 0, .slice none 0 0] 27 (0, 0))) (.slice none 0 0) (.slice none 0 0) 0 [] [] := ⟨block_new _ _, World.ownsRow_nil _ _ _ _, World.ownsRow_nil _ _ _ _⟩
  have t1 : decide (1024 < (n : Int)) = false := by simp; omega
  have t2 : decide (1024 < (al : Int)) = false := by simp; omega
  by_cases hlt : m < n
  · skip
    have HC : Hid (callsOf m n = m + 1) := if_pos hlt
    go_enter Yba.func3, Yba.ntmps3
    go_wp2_with (first
      | (go_at_call 7; go_must (refine (follows_any w.heap.size pa aa n pc al ac m D F U M ga _ _ _ hn hal (hP.below hb0) (hA.below hb0) hI0 HM.out).mono ?_; rintro e w1 ⟨rfl, lv, sv, hI1, hb1⟩; rw [HC.out] at hI1; obtain ⟨la, lc, hlv⟩ := own_shape hI1.lev; obtain ⟨sa, sc, hsv⟩ := own_shape hI1.stp; subst hlv hsv; have c1 := cell_at (i := 1) hI1.blk rfl; have c2 := cell_at (i := 2) hI1.blk rfl))
      | (go_at_call 8; go_must (refine (model_any n aa al ac ga _ hn hal m w.heap.size (hA.below (hb0.trans hb1)) HM.out).mono ?_; rintro e w2 ⟨rfl, rfl⟩)))
    go_loopw [9] (fun i wr => ∃ k : Nat, k ≤ m + 1 ∧ i = .int .i64 k ∧ Below w2.heap.size w2 wr) (fun i _ => m + 1 - (intOf i).toNat)
    case atStart => exact ⟨0, Nat.zero_le _, rfl, Below.refl _ _⟩
    case round =>
      obtain ⟨k, hk, rfl, hbr⟩ := hrel
      by_cases hkc : k < m + 1
      · rcases hP.below (hb0.trans hb1) with h0 | ⟨b, off, hb, rfl, hc⟩
        · omega
        have hB2 : w.heap.size < w2.heap.size := lt_of_block hI1.blk
        obtain ⟨gl, gs, cl, cs, ea, eb, lgl, lgs, hS⟩ := Sees.of hI1 hkc (hc k (by omega))
        clear ea eb
        have hSr := hS.below hbr hB2 lgl lgs (by omega)
        have HS : Hid (Sees w.heap.size gl gs b k off (m + 1) cl cs (D k) (F k) (U k) (M k) wr) := hSr
        obtain ⟨a0, a1, a2, a3, a4, a5, a6, a7, a8, a9, a10⟩ := hSr
        have hsz := hbr.size
        clear hS hc hI1 c1 c2 hP hA hI0 hb0
        have i0 : (0 : Int) ≤ (k : Int) := Int.natCast_nonneg _
        have i1 : (k : Int) < (m : Int) + 1 := by omega
        have i2 : (k : Int) < (n : Int) := by omega
        go_wp2_with fail
        go_region_held3 (fun w' => w'.cell? ⟨w.heap.size, 1, none⟩ = some (.slice (some ⟨gl, 0, none⟩) (m + 1) cl) ∧ w'.cell? ⟨gl, k, none⟩ = some (.int .i64 k) ∧ w'.cell? ⟨w.heap.size, 2, none⟩ = some (.slice (some ⟨gs, 0, none⟩) (m + 1) cs) ∧
          w'.cell? ⟨gs, k * 4, none⟩ = some (.int .i64 (D k)) ∧ w'.cell? ⟨gs, k * 4 + 1, none⟩ = some (.float .f64 (F k)) ∧ w'.cell? ⟨gs, k * 4 + 2, none⟩ = some (.bool (U k)) ∧ w'.cell? ⟨gs, k * 4 + 3, none⟩ = some (.bool (M k)) ∧
          w'.cell? ⟨b, off + k * 4, none⟩ = some (.int .i64 (D k)) ∧ w'.cell? ⟨b, off + k * 4 + 1, none⟩ = some (.float .f64 (F k)) ∧ w'.cell? ⟨b, off + k * 4 + 2, none⟩ = some (.bool (U k)) ∧ w'.cell? ⟨b, off + k * 4 + 3, none⟩ = some (.bool (M k)))
          (first | go_keep | exact Sees.below HS.out (((Below.refl wr.heap.size wr).drew).trans hb3) (by omega) (by omega) (by omega) (by omega))
          ((go_at_call 9; refine (same_any _ _ _ _ _).mono ?_; rintro e w3 ⟨rfl, hb3⟩))
        go_wp2
        go_roundw
        case rel => exact ⟨k + 1, by omega, by go_num, hbr.trans ((((Below.refl wr.heap.size wr).drew).trans hb3).mono hsz)⟩
        case measure => simp [intOf]; omega
      · go_wp2
        go_ret
        exact ⟨rfl, (hb0.trans hb1).trans (hbr.mono (hb0.trans hb1).size)⟩
  · skip
    have HC : Hid (callsOf m n = m) := if_neg hlt
    go_enter Yba.func3, Yba.ntmps3
    go_wp2_with (first
      | (go_at_call 7; go_must (refine (follows_any w.heap.size pa aa n pc al ac m D F U M ga _ _ _ hn hal (hP.below hb0) (hA.below hb0) hI0 HM.out).mono ?_; rintro e w1 ⟨rfl, lv, sv, hI1, hb1⟩; rw [HC.out] at hI1; obtain ⟨la, lc, hlv⟩ := own_shape hI1.lev; obtain ⟨sa, sc, hsv⟩ := own_shape hI1.stp; subst hlv hsv; have c1 := cell_at (i := 1) hI1.blk rfl; have c2 := cell_at (i := 2) hI1.blk rfl))
      | (go_at_call 8; go_must (refine (model_any n aa al ac ga _ hn hal m w.heap.size (hA.below (hb0.trans hb1)) HM.out).mono ?_; rintro e w2 ⟨rfl, rfl⟩)))
    go_loopw [9] (fun i wr => ∃ k : Nat, k ≤ m ∧ i = .int .i64 k ∧ Below w2.heap.size w2 wr) (fun i _ => m - (intOf i).toNat)
    case atStart => exact ⟨0, Nat.zero_le _, rfl, Below.refl _ _⟩
    case round =>
      obtain ⟨k, hk, rfl, hbr⟩ := hrel
      by_cases hkc : k < m
      · rcases hP.below (hb0.trans hb1) with h0 | ⟨b, off, hb, rfl, hc⟩
        · omega
        have hB2 : w.heap.size < w2.heap.size := lt_of_block hI1.blk
        obtain ⟨gl, gs, cl, cs, ea, eb, lgl, lgs, hS⟩ := Sees.of hI1 hkc (hc k (by omega))
        clear ea eb
        have hSr := hS.below hbr hB2 lgl lgs (by omega)
        have HS : Hid (Sees w.heap.size gl gs b k off (m) cl cs (D k) (F k) (U k) (M k) wr) := hSr
        obtain ⟨a0, a1, a2, a3, a4, a5, a6, a7, a8, a9, a10⟩ := hSr
        have hsz := hbr.size
        clear hS hc hI1 c1 c2 hP hA hI0 hb0
        have i0 : (0 : Int) ≤ (k : Int) := Int.natCast_nonneg _
        have i1 : (k : Int) < (m : Int) := by omega
        have i2 : (k : Int) < (n : Int) := by omega
        go_wp2_with fail
        go_region_held3 (fun w' => w'.cell? ⟨w.heap.size, 1, none⟩ = some (.slice (some ⟨gl, 0, none⟩) (m) cl) ∧ w'.cell? ⟨gl, k, none⟩ = some (.int .i64 k) ∧ w'.cell? ⟨w.heap.size, 2, none⟩ = some (.slice (some ⟨gs, 0, none⟩) (m) cs) ∧
          w'.cell? ⟨gs, k * 4, none⟩ = some (.int .i64 (D k)) ∧ w'.cell? ⟨gs, k * 4 + 1, none⟩ = some (.float .f64 (F k)) ∧ w'.cell? ⟨gs, k * 4 + 2, none⟩ = some (.bool (U k)) ∧ w'.cell? ⟨gs, k * 4 + 3, none⟩ = some (.bool (M k)) ∧
          w'.cell? ⟨b, off + k * 4, none⟩ = some (.int .i64 (D k)) ∧ w'.cell? ⟨b, off + k * 4 + 1, none⟩ = some (.float .f64 (F k)) ∧ w'.cell? ⟨b, off + k * 4 + 2, none⟩ = some (.bool (U k)) ∧ w'.cell? ⟨b, off + k * 4 + 3, none⟩ = some (.bool (M k)))
          (first | go_keep | exact Sees.below HS.out (((Below.refl wr.heap.size wr).drew).trans hb3) (by omega) (by omega) (by omega) (by omega))
          ((go_at_call 9; refine (same_any _ _ _ _ _).mono ?_; rintro e w3 ⟨rfl, hb3⟩))
        go_wp2
        go_roundw
        case rel => exact ⟨k + 1, by omega, by go_num, hbr.trans ((((Below.refl wr.heap.size wr).drew).trans hb3).mono hsz)⟩
        case measure => simp [intOf]; omega
      · go_wp2
        go_ret
        exact ⟨rfl, (hb0.trans hb1).trans (hbr.mono (hb0.trans hb1).size)⟩

end Go.Proofs.Ybulkrku
