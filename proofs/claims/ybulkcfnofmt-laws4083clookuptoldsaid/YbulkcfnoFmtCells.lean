/-
  Plain laws on worlds: a cell stored over and put back.
-/
import Derived.Laws.World
namespace Go.Proofs.YbulkcfnoFmt
open Go

/-- What a store does to one block. -/
def setObj (a : Addr) (v : Value) : Obj → Obj
  | .cells c elem frozen => .cells (if a.spot.isSome then c else c.setIfInBounds a.off v) elem frozen
  | o => o

theorem setCell_eq (w : World) (a : Addr) (v : Value) : w.setCell a v = { w with heap := w.heap.modify a.block (setObj a v) } := by
  unfold World.setCell
  congr 2

theorem setObj_twice (a : Addr) (u v : Value) (o : Obj) : setObj a v (setObj a u o) = setObj a v o := by
  cases o with
  | cells c e f =>
    by_cases hs : a.spot.isSome <;> simp [setObj, hs]
  | _ => rfl

theorem setCell_twice (w : World) (a : Addr) (u v : Value) : (w.setCell a u).setCell a v = w.setCell a v := by
  simp only [setCell_eq]
  congr 1
  apply Array.ext (by simp)
  intro i h1 h2
  simp only [Array.getElem_modify]
  by_cases hi : a.block = i
  · simp [hi, setObj_twice]
  · simp [hi]

theorem setCell_same_val (w : World) (a : Addr) (v : Value) (h : w.cell? a = some v) : w.setCell a v = w := by
  rw [setCell_eq]
  have : w.heap.modify a.block (setObj a v) = w.heap := by
    apply Array.ext (by simp)
    intro i h1 h2
    simp only [Array.getElem_modify]
    by_cases hi : a.block = i
    · subst hi
      simp only [if_true]
      have hb : w.heap[a.block]? = some w.heap[a.block] := Array.getElem?_eq_getElem h2
      unfold World.cell? at h
      rw [hb] at h
      generalize w.heap[a.block] = o at h
      cases o with
      | cells c e f =>
        by_cases hs : a.spot.isSome
        · simp [hs] at h
        · simp only [hs, Bool.false_eq_true, if_false] at h
          simp only [setObj, hs, Bool.false_eq_true, if_false]
          have hc : c.setIfInBounds a.off v = c := by
            apply Array.ext (by simp)
            intro j g1 g2
            by_cases hj : a.off = j
            · subst hj
              rw [Array.getElem?_eq_getElem g2] at h
              simp at h
              simp [h]
            · rw [Array.getElem_setIfInBounds_ne g2 hj]
          rw [hc]
      | _ => rfl
    · simp [hi]
  rw [this]

/-- A cell stored over and put back: the world as it was. -/
theorem setCell_back (w : World) (a : Addr) (u v : Value) (h : w.cell? a = some v) : (w.setCell a u).setCell a v = w := by
  rw [setCell_twice, setCell_same_val w a v h]

theorem setObj_comm (a b : Addr) (u v : Value) (h : a.off ≠ b.off) (ha : a.spot = none) (hb : b.spot = none) (o : Obj) : setObj b v (setObj a u o) = setObj a u (setObj b v o) := by
  cases o with
  | cells c e f => simp [setObj, ha, hb, Array.setIfInBounds_comm _ _ h]
  | _ => rfl

theorem setCell_comm (w : World) (a b : Addr) (u v : Value) (hab : a ≠ b) (ha : a.spot = none) (hb : b.spot = none) : (w.setCell a u).setCell b v = (w.setCell b v).setCell a u := by
  simp only [setCell_eq]
  congr 1
  apply Array.ext (by simp)
  intro i h1 h2
  simp only [Array.getElem_modify]
  by_cases hi : a.block = i
  · by_cases hj : b.block = i
    · have hoff : a.off ≠ b.off := by
        intro e
        apply hab
        cases a; cases b
        simp_all
      simp [hi, hj, setObj_comm a b u v hoff ha hb]
    · simp [hi, hj]
  · by_cases hj : b.block = i
    · simp [hi, hj]
    · simp [hi, hj]
end Go.Proofs.YbulkcfnoFmt
