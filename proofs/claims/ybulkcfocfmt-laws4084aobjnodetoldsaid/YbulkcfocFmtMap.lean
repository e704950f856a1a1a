/-
  A map keyed by strings that the call itself makes, whatever its elements: said as a function from keys to values.
  The kit's laws on owned maps, the elements read as tokens of themselves.
-/
import Derived.Maps.OwnSet
namespace Go.Proofs.YbulkcfocFmt
open Go Go.Maps

/-- An element reads as a token of itself. -/
def tokR (v : Value) : Option (DataW Value × List MemPlace) := some (.held v, [])

/-- Block b is a map of at most n entries: at the key s it holds 'f s' ('z' where there is none), and it has the key just if 'h s'. -/
def MapIs (P : Program) (k : TypeId) (z : Value) (w : World) (b n : Nat) (f : ByteArray → Value) (h : ByteArray → Bool) : Prop :=
  ∃ D, w.ownsMap P k tokR b n D ∧ ∀ s : ByteArray, s.size ≤ maxLen → D.atKey (.string s.data.toList) (.held z) = .held (f s) ∧ Maps.has D (.string s.data.toList) = h s

section
variable {P : Program} {k t e : TypeId} {z : Value} {w w' : World} {b n : Nat} {f : ByteArray → Value} {h : ByteArray → Bool}

theorem mapIs_made (P : Program) (k : TypeId) (z : Value) (w : World) : MapIs P k z (w.alloc (.map #[] 0)) w.heap.size 0 (fun _ => z) (fun _ => false) :=
  ⟨.map [], World.ownsMap_made w P k tokR, fun _ _ => ⟨rfl, rfl⟩⟩

theorem MapIs.kept {row : Option Nat} (m : MapIs P k z w b n f h) (hg : w.grownBy w' row) (hne : some b ≠ row) : MapIs P k z w' b n f h := by
  obtain ⟨D, ho, hf⟩ := m
  exact ⟨D, ho.kept hg hne, hf⟩

theorem MapIs.lt (m : MapIs P k z w b n f h) : b < w.heap.size := by
  obtain ⟨D, ho, _⟩ := m
  exact ho.lt

/-- The block is a map, no row of cells. -/
theorem MapIs.noCells (m : MapIs P k z w b n f h) {cs : Array Value} {u : TypeId} {fr : Nat × Nat} : w.heap[b]? ≠ some (.cells cs u fr) := by
  obtain ⟨D, ⟨es, clock, hb, _⟩, _⟩ := m
  rw [hb]
  simp

theorem MapIs.same (m : MapIs P k z w b n f h) (hb : w'.heap[b]? = w.heap[b]?) : MapIs P k z w' b n f h := by
  obtain ⟨D, ⟨es, clock, hb', r⟩, hf⟩ := m
  exact ⟨D, ⟨es, clock, by rw [hb]; exact hb', r⟩, hf⟩

theorem MapIs.look (m : MapIs P k z w b n f h) (hk : P.underlying k = some .string) (ht : P.underlying t = some (.map k e)) (hz : (zeroValue e).run P w = .ok z w) {s : ByteArray} (hs : s.size ≤ maxLen) :
    (Instr.lookup t (.map (some b)) (.string s) false).run P w = .ok (f s) w := by
  obtain ⟨D, ho, hf⟩ := m
  obtain ⟨v, ps, hrun, hv⟩ := ho.lookup (string_keyed hk) ht hz (zd := .held z) (zp := []) rfl (WideMaps.keyOf_string_mk hk hs)
  rw [(hf s hs).1] at hv
  simp only [tokR, Option.some.injEq, Prod.mk.injEq, DataW.held.injEq] at hv
  rw [hrun, hv.1]

theorem MapIs.look_ok (m : MapIs P k z w b n f h) (hk : P.underlying k = some .string) (ht : P.underlying t = some (.map k e)) (hz : (zeroValue e).run P w = .ok z w) {s : ByteArray} (hs : s.size ≤ maxLen) :
    (Instr.lookup t (.map (some b)) (.string s) true).run P w = .ok (.tuple #[f s, .bool (h s)]) w := by
  obtain ⟨D, ho, hf⟩ := m
  obtain ⟨v, ps, hrun, hv⟩ := ho.look_ok (string_keyed hk) ht hz (zd := .held z) (zp := []) rfl (WideMaps.keyOf_string_mk hk hs)
  rw [(hf s hs).1] at hv
  simp only [tokR, Option.some.injEq, Prod.mk.injEq, DataW.held.injEq] at hv
  rw [hrun, hv.1, (hf s hs).2]

theorem bytes_ne {s u : ByteArray} (h : s ≠ u) : (Lit.string s.data.toList) ≠ Lit.string u.data.toList := by
  intro e
  injection e with e
  apply h
  cases s; cases u
  simp at e
  simp [e]

theorem MapIs.update (m : MapIs P k z w b n f h) (hk : P.underlying k = some .string) (ht : P.underlying t = some (.map k e)) (hn : n < maxLen) {s : ByteArray} (hs : s.size ≤ maxLen) (v : Value) :
    ∃ w', (Instr.mapUpdate t (.map (some b)) (.string s) v).run P w = .ok () w' ∧ MapIs P k z w' b (n + 1) (fun u => if u = s then v else f u) (fun u => if u = s then true else h u) ∧ w.grownBy w' (some b) := by
  obtain ⟨D, ho, hf⟩ := m
  obtain ⟨w', hrun, ho', hg⟩ := ho.update (string_keyed hk) ht hn (WideMaps.keyOf_string_mk hk hs) (val := v) (d := .held v) (ps := []) rfl
  refine ⟨w', hrun, ⟨_, ho', fun u hu => ?_⟩, hg⟩
  by_cases hus : u = s
  · subst hus
    have hkl : WideAt.IsKeyLit (.string u.data.toList) := by trivial
    simp only [if_true]
    exact ⟨atKey_put_same ho.isMap hkl _ _, has_put_same ho.isMap hkl _⟩
  · simp only [if_neg hus]
    rw [atKey_put_other (bytes_ne hus), has_put_other (bytes_ne hus)]
    exact hf u hu
end
end Go.Proofs.YbulkcfocFmt
