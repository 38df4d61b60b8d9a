import Derived.Test.YbulkrkuCCount
namespace Go.Proofs.Ybulkrku
open Go.RowKit Go.WideMaps

section
variable {w w' : World} {T o c er rc N : Nat} {fo fc fr : ByteArray → Option Value} {so sc sr : Nat} {dp ms du : Int} {pa : Bool}
theorem Tal.drewN (h : Tal w T o c er rc N fo fc fr so sc sr dp ms du pa) (m : Nat) : Tal (w.drewN m) T o c er rc N fo fc fr so sc sr dp ms du pa :=
  ⟨h.blk, h.owed, h.came, h.erly, h.rchd, h.oc, h.oe, h.or, h.ce, h.cr, h.ers⟩
theorem Tal.owedLook (h : Tal w T o c er rc N fo fc fr so sc sr dp ms du pa) {s : ByteArray} (hs : s.size ≤ maxLen) : (Instr.lookup 41 (.map (some o)) (.string s) true).run Yba.prog w = .ok (.tuple #[(fo s).getD (.string ⟨#[]⟩), .bool (fo s).isSome]) w :=
  (h.owed.look (t := 41) Yba.underlying49 Yba.underlying41 (elemInj_string Yba.underlying47) (zero47 w) (plainElem_string Yba.underlying47 (by decide)) hs).1
theorem Tal.cameLook (h : Tal w T o c er rc N fo fc fr so sc sr dp ms du pa) {s : ByteArray} (hs : s.size ≤ maxLen) : (Instr.lookup 41 (.map (some c)) (.string s) true).run Yba.prog w = .ok (.tuple #[(fc s).getD (.string ⟨#[]⟩), .bool (fc s).isSome]) w :=
  (h.came.look (t := 41) Yba.underlying49 Yba.underlying41 (elemInj_string Yba.underlying47) (zero47 w) (plainElem_string Yba.underlying47 (by decide)) hs).1
theorem Tal.lens (h : Tal w T o c er rc N fo fc fr so sc sr dp ms du pa) :
    (∀ ty, (Builtin.len_ #[41] ty #[.map (some o)]).run Yba.prog w = .ok (.int .i64 so) w) ∧ (∀ ty, (Builtin.len_ #[41] ty #[.map (some c)]).run Yba.prog w = .ok (.int .i64 sc) w) ∧
    (∀ ty, (Builtin.len_ #[42] ty #[.map (some er)]).run Yba.prog w = .ok (.int .i64 0) w) ∧ (∀ ty, (Builtin.len_ #[43] ty #[.map (some rc)]).run Yba.prog w = .ok (.int .i64 sr) w) :=
  ⟨fun ty => h.owed.len Yba.underlying41 ty, fun ty => h.came.len Yba.underlying41 ty, fun ty => h.erly.len Yba.underlying42 ty, fun ty => h.rchd.len Yba.underlying43 ty⟩
end

/-! ### the children, in what is owed -/
theorem kids_child (pt : ByteArray) (S : Nat → ByteArray) (f : ByteArray → Option Value) : ∀ (k i : Nat), k ≤ 1024 → i < k → kids pt S f k (childOf pt i) = some (.string (S i))
  | 0, i, _, h => by omega
  | k + 1, i, hk, h => by
    by_cases e : i = k
    · subst e; exact upd_same _ _ _
    · rw [kids, upd_other _ _ (fun h' => e (childOf_inj (by omega) (by omega) h'))]
      exact kids_child pt S f k i (by omega) (by omega)
theorem kids_else (pt : ByteArray) (S : Nat → ByteArray) (f : ByteArray → Option Value) (s : ByteArray) : ∀ (k : Nat), (∀ i, i < k → s ≠ childOf pt i) → kids pt S f k s = f s
  | 0, _ => rfl
  | k + 1, h => by
    rw [kids, upd_other _ _ (h k (by omega))]
    exact kids_else pt S f s k (fun i hi => h i (by omega))
theorem kids_part (pt : ByteArray) (S : Nat → ByteArray) (f : ByteArray → Option Value) (k : Nat) : kids pt S (era f pt) k pt = none := by
  rw [kids_else _ _ _ _ _ (fun i _ h => childOf_ne pt i h.symm), era_same]
theorem kidSz_all (pt : ByteArray) (S : Nat → ByteArray) (f : ByteArray → Option Value) (s : Nat) (hf : ∀ i, f (childOf pt i) = none) : ∀ (k : Nat), k ≤ 1024 → kidSz pt S f s k = s + k
  | 0, _ => rfl
  | k + 1, hk => by
    have e : kids pt S f k (childOf pt k) = none := by
      rw [kids_else _ _ _ _ _ (fun i hi h => by have := childOf_inj (by omega) (by omega) h; omega), hf]
    rw [kidSz, e, kidSz_all pt S f s hf k (by omega)]
    simp
    omega
theorem child_ne_emp (pt : ByteArray) (i : Nat) : childOf pt i ≠ emp := fun h => by
  have := childOf_pos pt i
  rw [h] at this
  exact absurd this (by decide)
theorem toList_ne {p : ByteArray} (h : p ≠ emp) : p.toList.isEmpty = false := by
  cases e : p.toList.isEmpty
  · rfl
  · exfalso
    have h1 : p.toList = [] := by simpa using e
    rw [ByteArray.toList_eq] at h1
    exact h (ByteArray.ext (Array.toList_inj.1 h1))
theorem lost_any (b : Bool) (w : World) : Calls Yba.prog 14 #[.bool b] w fun e w' => e = .returned (.int .i64 (if b then 1 else 0)) ∧ w' = w := by
  cases b
  all_goals
    go_enter Yba.func14, Yba.ntmps14
    go_wp2
    go_ret
    exact ⟨rfl, rfl⟩
theorem rOf_none : rOf (fun _ => false) = noneAt := by funext x; simp [rOf, noneAt]

theorem own_base {w : World} {base base' : Nat} {e : TypeId} {size : Nat} {v : Value} {n : Nat} {xs : List Value} (h : w.ownsRow base e size v n xs) (hb : base' ≤ base) : w.ownsRow base' e size v n xs := by
  obtain ⟨h1, h2⟩ := h
  rcases h2 with h2 | ⟨g, cap, cur, a, b, r⟩
  · exact ⟨h1, .inl h2⟩
  · exact ⟨h1, .inr ⟨g, cap, cur, a, Nat.le_trans hb b, r⟩⟩

/-- the tally as it is made and laid into its variable -/
theorem tal_start {w1 : World} {o c er rc : Nat} {f : ByteArray → Option Value} (mo : MapIs Yba.prog 49 47 w1 o 1 f 1) (mc : MapIs Yba.prog 49 47 w1 c 1 noneAt 0) (me : MapIs Yba.prog 49 47 w1 er 1 (fun _ => none) 0) (mr : MapIs Yba.prog 47 4 w1 rc 1 noneAt 0)
    (oc : o ≠ c) (oe : o ≠ er) (or : o ≠ rc) (ce : c ≠ er) (cr : c ≠ rc) (ers : er ≠ rc) :
    Tal (w1.alloc (.cells #[.map (some o), .map (some c), .map (some er), .int .i64 0, .int .i64 0, .int .i64 0, .map (some rc), .int .i64 0, .bool false] 45 (0, 0))) w1.heap.size o c er rc 1 f noneAt (rOf (fun _ => false)) 1 0 0 0 0 0 false :=
  ⟨block_new w1 _, mo.alloc _, mc.alloc _, me.alloc _, by rw [rOf_none]; exact mr.alloc _, oc, oe, or, ce, cr, ers⟩
end Go.Proofs.Ybulkrku
