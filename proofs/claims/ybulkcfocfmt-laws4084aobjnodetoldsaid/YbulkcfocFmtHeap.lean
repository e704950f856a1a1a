/-
  Blocks of cells that the call itself makes, by their type: a block of one type is no block of another.
-/
import Derived.WalkKit
import Derived.Maps.AppendAt
namespace Go.Proofs.YbulkcfocFmt
open Go Go.RowKit

/-- Block b of w is a row of cells of type t, none frozen. -/
def Blk (w : World) (b : Nat) (t : TypeId) (cs : Array Value) : Prop := w.heap[b]? = some (.cells cs t (0, 0))

section
variable {w w' : World} {b b' i : Nat} {t t' : TypeId} {cs cs' : Array Value} {v : Value} {T : TypeId → Bool}

theorem Blk.cell (h : Blk w b t cs) (i : Nat) : w.cell? ⟨b, i, none⟩ = cs[i]? := by
  unfold Blk at h
  simp [World.cell?, h]

theorem Blk.frozen (h : Blk w b t cs) (i : Nat) : w.frozen? ⟨b, i, none⟩ = false := by
  unfold Blk at h
  simp [World.frozen?, h]

theorem Blk.lt (h : Blk w b t cs) : b < w.heap.size := (Array.getElem?_eq_some_iff.1 h).1

theorem Blk.alloc (h : Blk w b t cs) (o : Obj) : Blk (w.alloc o) b t cs := by
  unfold Blk
  rw [Below.heap_alloc w o b h.lt]
  exact h

theorem blk_new (w : World) (t : TypeId) (cs : Array Value) : Blk (w.alloc (.cells cs t)) w.heap.size t cs := heap_alloc_new w _

theorem Blk.drew (h : Blk w b t cs) : Blk w.drew b t cs := h

theorem Blk.set (h : Blk w b t cs) (i : Nat) (v : Value) : Blk (w.setCell ⟨b, i, none⟩ v) b t (cs.setIfInBounds i v) := by
  unfold Blk
  simp only [World.setCell, Array.getElem?_modify, if_true]
  unfold Blk at h
  simp [h]

theorem Blk.setOther (h : Blk w b t cs) (hne : b' ≠ b) (i : Nat) (v : Value) : Blk (w.setCell ⟨b', i, none⟩ v) b t cs := by
  unfold Blk
  rw [Below.heap_setCell _ _ _ _ (Ne.symm hne)]
  exact h

theorem Blk.grown {row : Option Nat} (h : Blk w b t cs) (hg : w.grownBy w' row) (hne : some b ≠ row) : Blk w' b t cs := by
  unfold Blk
  rw [hg.block b h.lt hne]
  exact h

theorem Blk.uniq (h : Blk w b t cs) (h' : Blk w b t' cs') : t = t' ∧ cs = cs' := by
  unfold Blk at h h'
  rw [h] at h'
  injection h' with h'
  injection h' with e1 e2
  exact ⟨e2, e1⟩

theorem Blk.ne (h : Blk w b t cs) (h' : Blk w b' t' cs') (ht : t ≠ t') : b ≠ b' := by
  intro e
  subst e
  exact ht (h.uniq h').1

/-- Every block of a type in T is as it was. -/
def Same (T : TypeId → Bool) (w w' : World) : Prop := ∀ b t cs, T t = true → Blk w b t cs → Blk w' b t cs

theorem Same.refl (T : TypeId → Bool) (w : World) : Same T w w := fun _ _ _ _ h => h
theorem Same.trans {w'' : World} (h : Same T w w') (h' : Same T w' w'') : Same T w w'' := fun b t cs ht hb => h' b t cs ht (h b t cs ht hb)
theorem Same.alloc (T : TypeId → Bool) (w : World) (o : Obj) : Same T w (w.alloc o) := fun _ _ _ _ h => h.alloc o
theorem Same.drew (T : TypeId → Bool) (w : World) : Same T w w.drew := fun _ _ _ _ h => h
theorem Same.setCell (h : Blk w b t cs) (ht : T t = false) (i : Nat) (v : Value) : Same T w (w.setCell ⟨b, i, none⟩ v) := fun b' t' cs' ht' h' => h'.setOther (by
  intro e
  subst e
  rw [(h.uniq h').1, ht'] at ht
  cases ht) i v
theorem Same.grown (hg : w.grownBy w' (some b)) (hT : ∀ t cs, Blk w b t cs → T t = false) : Same T w w' := fun b' t' cs' ht' h' => h'.grown hg (by
  intro e
  injection e with e
  subst e
  have := hT _ _ h'
  rw [ht'] at this
  cases this)
theorem Same.grownRow {row : Option Nat} (hg : w.grownBy w' row) (hT : ∀ k, row = some k → ∀ t cs, Blk w k t cs → T t = false) : Same T w w' := fun b' t' cs' ht' h' => h'.grown hg (by
  intro e
  have := hT _ e.symm _ _ h'
  rw [ht'] at this
  cases this)
theorem Same.mono {T' : TypeId → Bool} (h : Same T w w') (hT : ∀ t, T' t = true → T t = true) : Same T' w w' := fun b t cs ht hb => h b t cs (hT t ht) hb

theorem Same.owns {base : Nat} {e : TypeId} {size n : Nat} {xs : List Value} (h : Same T w w') (hT : T e = true) (ho : w.ownsRow base e size v n xs) : w'.ownsRow base e size v n xs := by
  refine ⟨ho.1, ?_⟩
  rcases ho.2 with hn | ⟨g, cap, cur, rfl, hb, hg, r⟩
  · exact .inl hn
  · exact .inr ⟨g, cap, cur, rfl, hb, h g e cur hT hg, r⟩

/-- The block of an owned row is of its element's type. -/
theorem owns_type {base : Nat} {e : TypeId} {size n : Nat} {xs : List Value} (ho : w.ownsRow base e size v n xs) : ∀ k, v.ownBlock = some k → ∃ cur, Blk w k e cur := by
  intro k hk
  rcases ho.2 with ⟨rfl, _⟩ | ⟨g, cap, cur, rfl, hb, hg, r⟩
  · simp [Value.ownBlock] at hk
  · simp [Value.ownBlock] at hk
    subst hk
    exact ⟨cur, hg⟩

/-- Behind an append to an owned row of type e all blocks of other types are as they were. -/
theorem same_append {base : Nat} {e : TypeId} {size n : Nat} {xs : List Value} (ho : w.ownsRow base e size v n xs) (hg : w.grownBy w' v.ownBlock) (hT : T e = false) : Same T w w' :=
  Same.grownRow hg fun k hk t cs hb => by
    obtain ⟨cur, hc⟩ := owns_type ho k hk
    rw [(hb.uniq hc).1, hT]
end
end Go.Proofs.YbulkcfocFmt
