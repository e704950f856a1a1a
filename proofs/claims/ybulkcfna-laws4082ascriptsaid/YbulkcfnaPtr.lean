/-
  zzs4082aptr: the pointer that a byte picks: into the slab, or nil.
-/
import Derived.Test.YbulkcfnaLoads
namespace Go.Proofs.Ybulkcfna
open Go.MuLone Go.RowKit

/-- The pointer that k picks, the slab at block B. -/
def pt (B : Nat) (k : Int) : Option Addr := if k % 5 = 4 then none else some ⟨B, (k % 5).toNat, none⟩

/-- A pointer into the slab, or nil. -/
def inSlab (B : Nat) (c : Option Addr) : Prop := c = none ∨ ∃ i : Nat, i < 4 ∧ c = some ⟨B, i, none⟩

theorem pt_inSlab (B : Nat) (k : Int) (_h0 : 0 ≤ k) : inSlab B (pt B k) := by
  unfold pt inSlab
  by_cases h : k % 5 = 4
  · simp [h]
  · right
    exact ⟨(k % 5).toNat, by omega, by simp [h]⟩

theorem inSlab_block {B : Nat} {c d : Option Addr} (hc : inSlab B c) (hd : inSlab B d) : ∀ a b, c = some a → d = some b → a.block = b.block := by
  intro a b ha hb
  rcases hc with rfl | ⟨i, _, rfl⟩
  · cases ha
  · rcases hd with rfl | ⟨j, _, rfl⟩
    · cases hb
    · cases ha; cases hb; rfl

theorem ptr_any (B : Nat) (k : Int) (w : World) (h0 : 0 ≤ k) (h1 : k ≤ 255) :
    Calls Yba.prog 5 #[.slice (some ⟨B, 0, none⟩) 4 4, .int .u8 k] w fun e w' => e = .returned (.pointer (pt B k)) ∧ w = w' := by
  by_cases h : k % 5 = 4
  · have hp : pt B k = none := by simp [pt, h]
    rw [hp]
    go_enter Yba.func5, Yba.ntmps5
    go_wp2
    go_ret
    exact ⟨rfl, rfl⟩
  · have hp : pt B k = some ⟨B, (k % 5).toNat, none⟩ := by simp [pt, h]
    rw [hp]
    have h2 : k % 5 < 4 := by omega
    go_enter Yba.func5, Yba.ntmps5
    go_wp2
    go_ret
    exact ⟨rfl, rfl⟩
end Go.Proofs.Ybulkcfna
