/-
  '==' and '!=' between two pointers into one block (or nil).
-/
import Derived.LaidEqlPtr
namespace Go.Proofs.Ybulkcfna
open Go
variable {P : Program}

theorem run_sameAddr_block (w : World) {a b : Addr} (hbl : a.block = b.block) : (sameAddr a b).run P w = .ok (decide (a = b)) w := by
  by_cases h : a = b
  · subst h; simp [sameAddr]
  · simp [sameAddr, hbl, h]

theorem run_equalIn_ptrs (w : World) (d : Nat) {tp te : TypeId} {j : TypeInfo} (p q : Option Addr) (hp : P.underlying tp = some (.pointer te)) (hte : P.info? te = some j) (hsz : j.size ≠ 0)
    (hbl : ∀ a b, p = some a → q = some b → a.block = b.block) :
    (Op.equalIn (d + 1) tp (.pointer p) (.pointer q)).run P w = .ok (decide (p = q)) w := by
  cases p with
  | none => cases q <;> simp [Op.equalIn, run_underlying hp]
  | some a =>
    cases q with
    | none => simp [Op.equalIn, run_underlying hp]
    | some b => simp [Op.equalIn, run_underlying hp, sizeOf, typeInfo, hte, hsz, run_sameAddr_block w (hbl a b rfl rfl)]

theorem run_eql_ptrs (w : World) {tp te : TypeId} {j : TypeInfo} (p q : Option Addr) (hp : P.underlying tp = some (.pointer te)) (hte : P.info? te = some j) (hsz : j.size ≠ 0)
    (hbl : ∀ a b, p = some a → q = some b → a.block = b.block) :
    (binOp .eql tp (.pointer p) (.pointer q)).run P w = .ok (.bool (decide (p = q))) w := by
  simp only [binOp]
  simp [Op.equal, Op.maxDepth, run_equalIn_ptrs w 9999 p q hp hte hsz hbl]

theorem run_neq_ptrs (w : World) {tp te : TypeId} {j : TypeInfo} (p q : Option Addr) (hp : P.underlying tp = some (.pointer te)) (hte : P.info? te = some j) (hsz : j.size ≠ 0)
    (hbl : ∀ a b, p = some a → q = some b → a.block = b.block) :
    (binOp .neq tp (.pointer p) (.pointer q)).run P w = .ok (.bool (!decide (p = q))) w := by
  simp only [binOp]
  simp [Op.equal, Op.maxDepth, run_equalIn_ptrs w 9999 p q hp hte hsz hbl]
end Go.Proofs.Ybulkcfna
