import Derived.Test.YbulkrkuAid
import Derived.Maps.OwnSet
import Derived.Maps.StringElems
import Derived.StringKeys
namespace Go.Proofs.Ybulkrku
open Go.RowKit Go.WideMaps

/-- how an element's value is known by what it reads as -/
def ElemInj (P : Program) (e : TypeId) : Prop := ∀ (v v' : Value) (d : DataW Unit) (ps ps' : List MemPlace), plainElem P e v = some (d, ps) → plainElem P e v' = some (d, ps') → v = v'

theorem elemInj_string {P : Program} {e : TypeId} (he : P.underlying e = some .string) : ElemInj P e := by
  intro v v' d ps ps' h h'
  obtain ⟨s, rfl, hz, _⟩ := plainElem_string_inv he h
  obtain ⟨s', rfl, hz', _⟩ := plainElem_string_inv he h'
  have e1 := congrArg Prod.fst hz
  have e2 := congrArg Prod.fst hz'
  simp only at e1 e2
  rw [e1] at e2
  simp at e2
  rw [ByteArray.ext e2]
theorem elemInj_bool {P : Program} {e : TypeId} (he : P.underlying e = some .bool) : ElemInj P e := by
  intro v v' d ps ps' h h'
  unfold plainElem at h h'
  rw [he] at h h'
  cases v <;> simp at h
  cases v' <;> simp at h'
  obtain ⟨rfl, _⟩ := h
  obtain ⟨h1, _⟩ := h'
  simp at h1
  rw [h1]

/-- block b is a map keyed by strings; f: what it holds at each; sz: how many -/
def MapIs (P : Program) (k e : TypeId) (w : World) (b N : Nat) (f : ByteArray → Option Value) (sz : Nat) : Prop :=
  ∃ D : DataW Unit, w.ownsMap P k (plainElem P e) b N D ∧ Maps.size D = sz ∧ ∀ s : ByteArray, s.size ≤ maxLen → Maps.has D (.string s.data.toList) = (f s).isSome ∧
    ∀ v, f s = some v → ∃ d, plainElem P e v = some (d, []) ∧ ∀ z, D.atKey (.string s.data.toList) z = d

def upd (f : ByteArray → Option Value) (s : ByteArray) (v : Value) : ByteArray → Option Value := fun x => if x = s then some v else f x
def era (f : ByteArray → Option Value) (s : ByteArray) : ByteArray → Option Value := fun x => if x = s then none else f x
theorem upd_same (f : ByteArray → Option Value) (s : ByteArray) (v : Value) : upd f s v s = some v := by simp [upd]
theorem upd_other (f : ByteArray → Option Value) {s x : ByteArray} (v : Value) (h : x ≠ s) : upd f s v x = f x := by simp [upd, h]
theorem era_same (f : ByteArray → Option Value) (s : ByteArray) : era f s s = none := by simp [era]
theorem era_other (f : ByteArray → Option Value) {s x : ByteArray} (h : x ≠ s) : era f s x = f x := by simp [era, h]

section
variable {P : Program} {k e t : TypeId} {w : World} {b N : Nat} {f : ByteArray → Option Value} {sz : Nat}

theorem MapIs.made (w : World) (P : Program) (k e : TypeId) : MapIs P k e (w.alloc (.map #[] 0)) w.heap.size 0 (fun _ => none) 0 :=
  ⟨.map [], World.ownsMap_made w P k _, rfl, fun _ _ => ⟨rfl, fun _ h => by cases h⟩⟩
theorem MapIs.mono (h : MapIs P k e w b N f sz) {N' : Nat} (hN : N ≤ N') : MapIs P k e w b N' f sz := by
  obtain ⟨D, h1, h2⟩ := h
  exact ⟨D, h1.mono hN, h2⟩
theorem MapIs.lt (h : MapIs P k e w b N f sz) : b < w.heap.size := by
  obtain ⟨D, h1, _⟩ := h
  exact h1.lt
theorem MapIs.kept {w' : World} {row : Option Nat} (h : MapIs P k e w b N f sz) (hg : w.grownBy w' row) (hne : some b ≠ row) : MapIs P k e w' b N f sz := by
  obtain ⟨D, h1, h2⟩ := h
  exact ⟨D, h1.kept hg hne, h2⟩
theorem MapIs.alloc (h : MapIs P k e w b N f sz) (o : Obj) : MapIs P k e (w.alloc o) b N f sz := h.kept (World.grownBy_alloc w o none) (by simp)
theorem MapIs.drew (h : MapIs P k e w b N f sz) : MapIs P k e w.drew b N f sz := h
theorem MapIs.below {w' : World} {B : Nat} (h : MapIs P k e w b N f sz) (hb : Below B w w') (hB : b < B) : MapIs P k e w' b N f sz := by
  obtain ⟨D, ⟨es, clock, h1, h2⟩, h3⟩ := h
  exact ⟨D, ⟨es, clock, (hb.block b hB).trans h1, h2⟩, h3⟩
theorem MapIs.setCell (h : MapIs P k e w b N f sz) {a : Addr} (ha : b ≠ a.block) (u : Value) : MapIs P k e (w.setCell a u) b N f sz := by
  obtain ⟨D, h1, h2⟩ := h
  exact ⟨D, h1.setCell ha u, h2⟩
theorem MapIs.ne_cells (h : MapIs P k e w b N f sz) {g : Nat} {cs : Array Value} {t : TypeId} {fr : Nat × Nat} (hg : w.heap[g]? = some (.cells cs t fr)) : g ≠ b := by
  obtain ⟨D, ⟨es, clock, hb, _⟩, _⟩ := h
  intro e
  subst e
  rw [hg] at hb
  cases hb

theorem MapIs.look (h : MapIs P k e w b N f sz) (hk : P.underlying k = some .string) (ht : P.underlying t = some (.map k e)) (hE : ElemInj P e) {z : Value} (hz : (zeroValue e).run P w = .ok z w) {zd : DataW Unit} (hzd : plainElem P e z = some (zd, []))
    {s : ByteArray} (hs : s.size ≤ maxLen) : (Instr.lookup t (.map (some b)) (.string s) true).run P w = .ok (.tuple #[(f s).getD z, .bool (f s).isSome]) w ∧ (Instr.lookup t (.map (some b)) (.string s) false).run P w = .ok ((f s).getD z) w := by
  obtain ⟨D, h1, _, h3⟩ := h
  obtain ⟨hh, hv⟩ := h3 s hs
  have key := keyOf_string_mk (P := P) hk hs
  have val : ∀ v ps, plainElem P e v = some (D.atKey (.string s.data.toList) zd, ps) → v = (f s).getD z := by
    intro v ps hp
    cases hf : f s with
    | none =>
      rw [hf] at hh
      rw [Maps.atKey_of_not_has hh] at hp
      exact hE _ _ _ _ _ hp hzd
    | some x =>
      obtain ⟨d, hd, ha⟩ := hv x hf
      rw [ha zd] at hp
      exact hE _ _ _ _ _ hp hd
  obtain ⟨v, ps, hr, hp⟩ := h1.look_ok (Maps.string_keyed hk) ht hz hzd key
  obtain ⟨v', ps', hr', hp'⟩ := h1.lookup (Maps.string_keyed hk) ht hz hzd key
  rw [val v ps hp, hh] at hr
  rw [val v' ps' hp'] at hr'
  exact ⟨hr, hr'⟩

theorem lit_ne {s x : ByteArray} (h : x ≠ s) : (Lit.string x.data.toList) ≠ .string s.data.toList := fun e => h (ByteArray.ext (by simpa using e))

theorem MapIs.store (h : MapIs P k e w b N f sz) (hk : P.underlying k = some .string) (ht : P.underlying t = some (.map k e)) (hN : N < maxLen) {s : ByteArray} (hs : s.size ≤ maxLen) {v : Value} {d : DataW Unit} (hv : plainElem P e v = some (d, [])) :
    ∃ w', (Instr.mapUpdate t (.map (some b)) (.string s) v).run P w = .ok () w' ∧ MapIs P k e w' b (N + 1) (upd f s v) (if (f s).isSome then sz else sz + 1) ∧ w.grownBy w' (some b) ∧ w'.heap.size = w.heap.size := by
  obtain ⟨D, h1, h2, h3⟩ := h
  have key := keyOf_string_mk (P := P) hk hs
  have K := Maps.string_keyed (P := P) hk
  obtain ⟨w', hr, h1', hg⟩ := h1.store K ht hN key hv
  refine ⟨w', hr, ⟨D.put (.string s.data.toList) d, h1', ?_, fun x hx => ?_⟩, hg.grown, ?_⟩
  · rw [Maps.size_put (h1.tidy K), (h3 s hs).1, h2]
  · by_cases e1 : x = s
    · subst e1
      rw [Maps.has_put_same h1.isMap (K.key key), upd_same]
      exact ⟨rfl, fun u hu => by cases hu; exact ⟨d, hv, fun z => Maps.atKey_put_same h1.isMap (K.key key) d z⟩⟩
    · rw [Maps.has_put_other (lit_ne e1), upd_other f v e1]
      obtain ⟨a, c⟩ := h3 x hx
      refine ⟨a, fun u hu => ?_⟩
      obtain ⟨d', hd', hz'⟩ := c u hu
      exact ⟨d', hd', fun z => by rw [Maps.atKey_put_other (lit_ne e1)]; exact hz' z⟩
  · obtain ⟨es, cl, es', cl', hb, rfl⟩ := hg
    simp [ChangeMaps.setBlock]

theorem MapIs.drop (h : MapIs P k e w b N f sz) (hk : P.underlying k = some .string) (ht : P.underlying t = some (.map k e)) {s : ByteArray} (hs : s.size ≤ maxLen) (ty : TypeId) :
    ∃ w', (Builtin.delete_ #[t, k] ty #[.map (some b), .string s]).run P w = .ok (.tuple #[]) w' ∧ MapIs P k e w' b N (era f s) (if (f s).isSome then sz - 1 else sz) ∧ w.grownBy w' (some b) ∧ w'.heap.size = w.heap.size := by
  obtain ⟨D, h1, h2, h3⟩ := h
  have key := keyOf_string_mk (P := P) hk hs
  have K := Maps.string_keyed (P := P) hk
  obtain ⟨w', hr, h1', hg⟩ := h1.drop K ht key ty
  refine ⟨w', hr, ⟨D.del (.string s.data.toList), h1', ?_, fun x hx => ?_⟩, hg.grown, ?_⟩
  · have := Maps.size_del (k := .string s.data.toList) (h1.tidy K)
    rw [(h3 s hs).1, h2] at this
    split at this <;> rename_i hc <;> simp only [hc, if_true, if_false, Bool.false_eq_true] <;> omega
  · by_cases e1 : x = s
    · subst e1
      rw [Maps.has_del_same, era_same]
      exact ⟨rfl, fun u hu => by cases hu⟩
    · rw [Maps.has_del_other (lit_ne e1), era_other f e1]
      obtain ⟨a, c⟩ := h3 x hx
      refine ⟨a, fun u hu => ?_⟩
      obtain ⟨d', hd', hz'⟩ := c u hu
      exact ⟨d', hd', fun z => by rw [Maps.atKey_del_other (lit_ne e1)]; exact hz' z⟩
  · obtain ⟨es, cl, es', cl', hb, rfl⟩ := hg
    simp [ChangeMaps.setBlock]

theorem MapIs.len {e' : TypeId} (h : MapIs P k e w b N f sz) (ht : P.underlying t = some (.map k e')) (ty : TypeId) : (Builtin.len_ #[t] ty #[.map (some b)]).run P w = .ok (.int .i64 sz) w := by
  obtain ⟨D, h1, h2, _⟩ := h
  rw [h1.len ht ty, h2]
end
end Go.Proofs.Ybulkrku
