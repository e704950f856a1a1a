/-
  The definitions that came in, the plain model, and what stands for a built value.
-/
import Derived.Test.YbulkcfocFmtRows
import Derived.WalkKit
import Derived.WalkSpells
import Derived.Test.YbulkcfocFmtHeap
import Derived.Test.YbulkcfocFmtMap
namespace Go.Proofs.YbulkcfocFmt
open Go Go.RowKit Go.Maps

/-- A slice of strings below B. -/
def StrIs (w : World) (B : Nat) (A : Option Addr) (n : Nat) (K : Nat → ByteArray) : Prop :=
  ∀ i, i < n → (∃ b o, A = some ⟨b, o, none⟩ ∧ b < B ∧ w.cell? ⟨b, o + i, none⟩ = some (.string (K i))) ∧ (K i).size ≤ maxLen

theorem StrIs.below {w w' : World} {B C : Nat} {A : Option Addr} {n : Nat} {K : Nat → ByteArray} (h : StrIs w B A n K) (hb : Below C w w') (hC : B ≤ C) : StrIs w' B A n K := fun i hi => by
  obtain ⟨⟨b, o, hA, hlt, hc⟩, hs⟩ := h i hi
  exact ⟨⟨b, o, hA, hlt, (hb.cell (p := ⟨b, o + i, none⟩) (Nat.lt_of_lt_of_le hlt hC)).trans hc⟩, hs⟩

/-- One definition. -/
structure Df where
  rank : Int
  kind : Int
  kA : Option Addr
  kn : Nat
  kc : Nat
  K : Nat → ByteArray
  vA : Option Addr
  vn : Nat
  vc : Nat
  V : Nat → ByteArray

def Df.cells (d : Df) : Array Value := #[.int .i64 d.rank, .int .u8 d.kind, .slice d.kA d.kn d.kc, .slice d.vA d.vn d.vc]
def Df.val (d : Df) (i : Nat) : ByteArray := if i < d.vn then d.V i else ⟨#[]⟩

structure Df.Ok (d : Df) (w : World) (B : Nat) : Prop where
  k0 : 0 ≤ d.kind
  k1 : d.kind ≤ 255
  kn : d.kn ≤ maxLen
  vn : d.vn ≤ maxLen
  keys : StrIs w B d.kA d.kn d.K
  vals : StrIs w B d.vA d.vn d.V

theorem Df.Ok.below {d : Df} {w w' : World} {B C : Nat} (h : d.Ok w B) (hb : Below C w w') (hC : B ≤ C) : d.Ok w' B :=
  ⟨h.k0, h.k1, h.kn, h.vn, h.keys.below hb hC, h.vals.below hb hC⟩

/-- The rows of definitions that came in. -/
structure Dfs (w : World) (B : Nat) (A : Option Addr) (n : Nat) (D : Nat → Df) : Prop where
  ok : ∀ j, j < n → (D j).Ok w B
  row : ∀ j, j < n → ∃ b o, A = some ⟨b, o, none⟩ ∧ b < B ∧ ∀ i, i < 4 → w.cell? ⟨b, o + j * 4 + i, none⟩ = (D j).cells[i]?

theorem Dfs.below {w w' : World} {B C : Nat} {A : Option Addr} {n : Nat} {D : Nat → Df} (h : Dfs w B A n D) (hb : Below C w w') (hC : B ≤ C) : Dfs w' B A n D :=
  ⟨fun j hj => (h.ok j hj).below hb hC, fun j hj => by
    obtain ⟨b, o, hA, hlt, hc⟩ := h.row j hj
    exact ⟨b, o, hA, hlt, fun i hi => (hb.cell (p := ⟨b, o + j * 4 + i, none⟩) (Nat.lt_of_lt_of_le hlt hC)).trans (hc i hi)⟩⟩

/-- The last key that is s, of the first k. -/
def last (K : Nat → ByteArray) (s : ByteArray) : Nat → Option Nat
  | 0 => none
  | k + 1 => if s = K k then some k else last K s k

theorem last_lt {K : Nat → ByteArray} {s : ByteArray} {j : Nat} : ∀ {k : Nat}, last K s k = some j → j < k
  | k + 1, h => by
    unfold last at h
    by_cases e : s = K k
    · simp [e] at h
      omega
    · simp only [if_neg e] at h
      have := last_lt h
      omega

def sx : ByteArray := ⟨#[120]⟩

inductive Res where
  | absent
  | hidden
  | str (s : ByteArray)
  | obj (s : ByteArray)

/-- What one definition says of a path (its length, first and second element). -/
def one (d : Df) (pn : Nat) (p0 p1 : ByteArray) : Res :=
  if d.kind % 3 = 0 then .hidden else
  match last d.K p0 d.kn with
  | none => .absent
  | some j =>
    if d.kind % 3 = 1 then (if pn = 1 then .str (d.val j) else .hidden)
    else if pn = 1 then .obj (d.val j)
    else if p1 = sx then (if pn = 2 then .str (d.val j) else .hidden)
    else .absent

/-- The first that says anything. -/
def Res.or : Res → Res → Res
  | .absent, r => r
  | r, _ => r

def model (D : Nat → Df) (hz : Int) (pn : Nat) (p0 p1 : ByteArray) : Nat → Res
  | 0 => .absent
  | k + 1 => if hz ≤ (D k).rank then model D hz pn p0 p1 k else (one (D k) pn p0 p1).or (model D hz pn p0 p1 k)

def Res.code : Res → Int
  | .absent => 0
  | .hidden => 1
  | _ => 2
def Res.text : Res → ByteArray
  | .str s => s
  | .obj s => s
  | _ => ⟨#[]⟩
def Res.wrapped : Res → Bool
  | .obj _ => true
  | _ => false

/-- All maps stand. -/
def MSame (w w' : World) : Prop := ∀ (b : Nat) es c, w.heap[b]? = some (Obj.map es c) → w'.heap[b]? = some (Obj.map es c)

theorem MSame.trans {w w' w'' : World} (h : MSame w w') (h' : MSame w' w'') : MSame w w'' := fun b es c hb => h' b es c (h b es c hb)
theorem MSame.below {w w' : World} (h : Below w.heap.size w w') : MSame w w' := fun b es c hb => by
  rw [h.block b (Array.getElem?_eq_some_iff.1 hb).1]
  exact hb
theorem MSame.map {w w' : World} (h : MSame w w') {P : Program} {k : TypeId} {z : Value} {b n : Nat} {f : ByteArray → Value} {hs : ByteArray → Bool} (m : MapIs P k z w b n f hs) : MapIs P k z w' b n f hs := by
  obtain ⟨D, ⟨es, clock, hb, r⟩, hf⟩ := m
  exact ⟨D, ⟨es, clock, h _ _ _ hb, r⟩, hf⟩
theorem MSame.append {w w' : World} {base : Nat} {e : TypeId} {size n : Nat} {v : Value} {xs : List Value} (ho : w.ownsRow base e size v n xs) (hg : w.grownBy w' v.ownBlock) : MSame w w' := fun b es c hb => by
  rw [hg.block b (Array.getElem?_eq_some_iff.1 hb).1]
  · exact hb
  · intro he
    obtain ⟨cur, hc⟩ := owns_type ho b he.symm
    unfold Blk at hc
    rw [hb] at hc
    cases hc

/-- Object{"x": String(s)}. -/
def Leaf (w : World) (c : Nat) (s : ByteArray) : Prop :=
  ∃ D, w.ownsMap Ybaf.prog 9 tokR c 1 D ∧ Maps.size D = 1 ∧ ∀ u : ByteArray, u.size ≤ maxLen → D.atKey (.string u.data.toList) (.held .nilIface) = .held (if u = sx then .iface 76 (.string s) else .nilIface) ∧ Maps.has D (.string u.data.toList) = (if u = sx then true else false)

theorem Leaf.map {w : World} {c : Nat} {s : ByteArray} (h : Leaf w c s) : MapIs Ybaf.prog 9 .nilIface w c 1 (fun u => if u = sx then .iface 76 (.string s) else .nilIface) (fun u => if u = sx then true else false) := by
  obtain ⟨D, ho, _, hf⟩ := h
  exact ⟨D, ho, hf⟩
theorem Leaf.len {w : World} {c : Nat} {s : ByteArray} (h : Leaf w c s) (ty : TypeId) : (Builtin.len_ #[67] ty #[.map (some c)]).run Ybaf.prog w = .ok (.int .i64 1) w := by
  obtain ⟨D, ho, hs, hf⟩ := h
  rw [ho.len Ybaf.underlying67, hs]
  rfl
theorem Leaf.msame {w w' : World} {c : Nat} {s : ByteArray} (h : Leaf w c s) (hm : MSame w w') : Leaf w' c s := by
  obtain ⟨D, ⟨es, clock, hb, r⟩, hf⟩ := h
  exact ⟨D, ⟨es, clock, hm _ _ _ hb, r⟩, hf⟩
theorem Leaf.kept {w w' : World} {c : Nat} {s : ByteArray} {row : Option Nat} (h : Leaf w c s) (hg : w.grownBy w' row) (hne : some c ≠ row) : Leaf w' c s := by
  obtain ⟨D, ho, hf⟩ := h
  exact ⟨D, ho.kept hg hne, hf⟩
theorem Leaf.lt {w : World} {c : Nat} {s : ByteArray} (h : Leaf w c s) : c < w.heap.size := h.map.lt

theorem sx_size : sx.size ≤ maxLen := by decide

/-- The literal makes a leaf. -/
theorem leaf_made (w : World) (s : ByteArray) :
    ∃ w', (Instr.mapUpdate 67 (.map (some w.heap.size)) (.string sx) (.iface 76 (.string s))).run Ybaf.prog (w.alloc (.map #[] 0)) = .ok () w' ∧ Leaf w' w.heap.size s ∧ (w.alloc (.map #[] 0)).grownBy w' (some w.heap.size) := by
  have ho := World.ownsMap_made w Ybaf.prog 9 tokR
  obtain ⟨w', hrun, ho', hg⟩ := ho.update (string_keyed Ybaf.underlying9) Ybaf.underlying67 (by unfold maxLen; omega) (WideMaps.keyOf_string_mk Ybaf.underlying9 sx_size) (val := .iface 76 (.string s)) (d := .held (.iface 76 (.string s))) (ps := []) rfl
  refine ⟨w', hrun, ⟨_, ho', rfl, fun u hu => ?_⟩, hg⟩
  by_cases hus : u = sx
  · subst hus
    have hkl : WideAt.IsKeyLit (.string sx.data.toList) := by trivial
    simp only [if_true]
    exact ⟨atKey_put_same ho.isMap hkl _ _, has_put_same ho.isMap hkl _⟩
  · simp only [if_neg hus]
    rw [atKey_put_other (bytes_ne hus), has_put_other (bytes_ne hus)]
    exact ⟨rfl, rfl⟩

/-- A map with the first k keys; G: what an element is. -/
def Keyd (K : Nat → ByteArray) (G : World → Nat → Value → Prop) (w : World) (b k : Nat) : Prop :=
  ∃ f h, MapIs Ybaf.prog 9 .nilIface w b k f h ∧ ∀ s, (last K s k = none → h s = false) ∧ ∀ j, last K s k = some j → h s = true ∧ G w j (f s)

theorem Keyd.start (K : Nat → ByteArray) (G : World → Nat → Value → Prop) (w : World) : Keyd K G (w.alloc (.map #[] 0)) w.heap.size 0 :=
  ⟨_, _, mapIs_made _ _ _ _, fun s => ⟨fun _ => rfl, fun j h => by cases h⟩⟩

theorem Keyd.step {K : Nat → ByteArray} {G : World → Nat → Value → Prop} {w : World} {b k : Nat} (h : Keyd K G w b k) (hk : k < maxLen) (hs : (K k).size ≤ maxLen) (v : Value)
    (hG : ∀ w', w.grownBy w' (some b) → ∀ j u, G w j u → G w' j u) (hv : ∀ w', w.grownBy w' (some b) → G w' k v) :
    ∃ w', (Instr.mapUpdate 67 (.map (some b)) (.string (K k)) v).run Ybaf.prog w = .ok () w' ∧ Keyd K G w' b (k + 1) ∧ w.grownBy w' (some b) := by
  obtain ⟨f, hh, m, hf⟩ := h
  obtain ⟨w', hrun, m', hg⟩ := m.update Ybaf.underlying9 Ybaf.underlying67 hk hs v
  refine ⟨w', hrun, ⟨_, _, m', fun s => ?_⟩, hg⟩
  by_cases e : s = K k
  · refine ⟨fun hn => ?_, fun j hj => ?_⟩
    · simp [last, e] at hn
    · simp [last, e] at hj
      subst hj
      simp only [e, if_true]
      exact ⟨trivial, hv w' hg⟩
  · simp only [last, if_neg e]
    exact ⟨(hf s).1, fun j hj => ⟨((hf s).2 j hj).1, hG w' hg _ _ ((hf s).2 j hj).2⟩⟩

theorem Keyd.imp {K : Nat → ByteArray} {G G' : World → Nat → Value → Prop} {w w' : World} {b k : Nat} (h : Keyd K G w b k) (hm : MSame w w') (hG : ∀ j u, G w j u → G' w' j u) : Keyd K G' w' b k := by
  obtain ⟨f, hh, m, hf⟩ := h
  exact ⟨f, hh, hm.map m, fun s => ⟨(hf s).1, fun j hj => ⟨((hf s).2 j hj).1, hG _ _ ((hf s).2 j hj).2⟩⟩⟩

theorem Keyd.lt {K : Nat → ByteArray} {G : World → Nat → Value → Prop} {w : World} {b k : Nat} (h : Keyd K G w b k) : b < w.heap.size := by
  obtain ⟨f, hh, m, hf⟩ := h
  exact m.lt

def G1 (d : Df) (_ : World) (j : Nat) (v : Value) : Prop := v = .iface 76 (.string (d.val j))
def G2 (d : Df) (w : World) (j : Nat) (v : Value) : Prop := ∃ c, v = .iface 67 (.map (some c)) ∧ Leaf w c (d.val j)

/-- The value that is built of a definition. -/
inductive Built (w : World) (d : Df) : Value → Prop
  | lit (h : d.kind % 3 = 0) : Built w d (.iface 76 (.string (d.val 0)))
  | flat (h : d.kind % 3 = 1) (b : Nat) (m : Keyd d.K (G1 d) w b d.kn) : Built w d (.iface 67 (.map (some b)))
  | nest (h : d.kind % 3 = 2) (b : Nat) (m : Keyd d.K (G2 d) w b d.kn) : Built w d (.iface 67 (.map (some b)))

theorem Built.msame {w w' : World} {d : Df} {v : Value} (h : Built w d v) (hm : MSame w w') : Built w' d v := by
  cases h with
  | lit h => exact .lit h
  | flat h b m => exact .flat h b (m.imp hm fun _ _ h => h)
  | nest h b m => exact .nest h b (m.imp hm fun _ _ ⟨c, e, hl⟩ => ⟨c, e, hl.msame hm⟩)

/-- What a look-up hands back. -/
inductive Holds (w : World) : Res → Value → Prop
  | absent : Holds w .absent .nilIface
  | hidden : Holds w .hidden .nilIface
  | str (s : ByteArray) : Holds w (.str s) (.iface 76 (.string s))
  | obj (s : ByteArray) (c : Nat) (h : Leaf w c s) : Holds w (.obj s) (.iface 67 (.map (some c)))

theorem Holds.msame {w w' : World} {r : Res} {v : Value} (h : Holds w r v) (hm : MSame w w') : Holds w' r v := by
  cases h with
  | absent => exact .absent
  | hidden => exact .hidden
  | str s => exact .str s
  | obj s c h => exact .obj s c (h.msame hm)
end Go.Proofs.YbulkcfocFmt
