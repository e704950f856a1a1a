import Derived.Test.YbulkcfoqRows
import Derived.WalkKit
import Derived.Below
import Derived.Ground.NamesProg
import Derived.Ground.SlbCloneProg
import Derived.Shelf.Lay
import Derived.Shelf.Bytes.SlEqualAll
import Derived.Shelf.Bytes.SlClone
import Derived.Lib.SlBytesConst
namespace Go.Proofs
open Go.Shelf
shelf_lay Lays.nb115 Nm 115 at Yba as Ybulkcfoq.lays115
shelf_lay Lays.nb140 Nm 140 at Yba as Ybulkcfoq.lays140
shelf_lay Lays.nb142 Nm 142 at Yba as Ybulkcfoq.lays142
shelf_lay SlLaysK.n4 Slk 4 at Yba as Ybulkcfoq.laysK4
end Go.Proofs

namespace Go.Proofs.Ybulkcfoq
open Go.RowKit Go.Shelf Go.Lib

/-- A byte's number is told by the byte. -/
theorem byte_inj {x y : Int} (hx : 0 ≤ x ∧ x < 256) (hy : 0 ≤ y ∧ y < 256) (h : UInt8.ofNat x.toNat = UInt8.ofNat y.toNat) : x = y := by
  have := congrArg UInt8.toNat h
  simp at this
  omega

/-- Does a row of numbers end with y? -/
theorem ends_one (xs : List Int) (y : Int) (hb : ∀ x ∈ xs, 0 ≤ x ∧ x < 256) (hy : 0 ≤ y ∧ y < 256) :
    Lib.hasSuffix (Lib.bytesOf xs) (Lib.bytesOf [y]) = decide (0 < xs.length ∧ xs.getD (xs.length - 1) 0 = y) := by
  rcases List.eq_nil_or_concat xs with rfl | ⟨l, z, rfl⟩
  · simp [Lib.hasSuffix, Lib.bytesOf, List.isSuffixOf]
  · have hz := hb z (by simp)
    rw [Bool.eq_iff_iff]
    simp only [Lib.hasSuffix, Lib.bytesOf, List.isSuffixOf_iff_suffix, List.concat_eq_append, List.map_append, List.map_cons, List.map_nil, decide_eq_true_eq]
    constructor
    · rintro ⟨t, ht⟩
      have e := (List.append_inj_right' ht rfl)
      simp only [List.cons.injEq, and_true] at e
      have := byte_inj hy hz e
      subst this
      simp
    · rintro ⟨_, h⟩
      simp at h
      subst h
      exact ⟨_, rfl⟩

/-- The place behind which a line's ending begins. -/
def cutAt (xs : List Int) (y : Int) : Nat := if 0 < xs.length ∧ xs.getD (xs.length - 1) 0 = y then xs.length - 1 else xs.length

theorem cutAt_le (xs : List Int) (y : Int) : cutAt xs y ≤ xs.length := by unfold cutAt; split <;> omega

/-- What the cut of a one-byte ending hands back. -/
theorem trimV_one {w : World} {p : Option Addr} {n c : Nat} {xs : List Int} {y : Int} (hx : xs.length = n) (h : Lib.BytesIn w p n xs) (hb : ∀ x ∈ xs, 0 ≤ x ∧ x < 256) (hy : 0 ≤ y ∧ y < 256) :
    Lib.trimSuffixV p n c xs [y] = .slice p (cutAt xs y) c := by
  rcases Nat.eq_zero_or_pos n with hn | hn
  · have h0 : Lib.hasSuffix (Lib.bytesOf xs) (Lib.bytesOf [y]) = false := by rw [ends_one xs y hb hy]; simp; omega
    have hc : cutAt xs y = n := by unfold cutAt; rw [if_neg (by omega)]; exact hx
    unfold Lib.trimSuffixV
    split
    · unfold Lib.bytesTrimSuffix
      rw [h0, hc]; rfl
    · rw [hc]
  · obtain ⟨b, o, rfl, _⟩ := h.at hn
    show Lib.bytesTrimSuffix b o n c xs [y] = _
    unfold Lib.bytesTrimSuffix
    rw [ends_one xs y hb hy]
    unfold cutAt
    by_cases h : 0 < xs.length ∧ xs.getD (xs.length - 1) 0 = y
    · rw [if_pos h, decide_eq_true h, hx]; rfl
    · rw [if_neg h, decide_eq_false h, hx]; rfl

theorem BytesIn_take {w : World} {p : Option Addr} {n k : Nat} {xs : List Int} (h : Lib.BytesIn w p n xs) (hk : k ≤ n) : Lib.BytesIn w p k (xs.take k) := fun h0 => by
  obtain ⟨b, o, rfl, hc⟩ := h.at (by omega)
  refine ⟨b, o, rfl, fun i hi => ?_⟩
  rw [hc i (by omega)]
  simp [List.getD, hi]

theorem BytesIn_below {w w' : World} {p : Option Addr} {n : Nat} {xs : List Int} (h : Lib.BytesIn w p n xs) (hb : Below w.heap.size w w') : Lib.BytesIn w' p n xs := fun h0 => by
  obtain ⟨b, o, rfl, hc⟩ := h.at h0
  refine ⟨b, o, rfl, fun i hi => ?_⟩
  have hlt : b < w.heap.size := by
    rcases Nat.lt_or_ge b w.heap.size with h' | h'
    · exact h'
    · have := hc i hi
      simp [World.cell?, Array.getElem?_eq_none h'] at this
  rw [hb.cell (p := ⟨b, o + i, none⟩) hlt]
  exact hc i hi

end Go.Proofs.Ybulkcfoq
