/-
  zzs4083asame (7): two rows of the same waiters: true.
-/
import Derived.Test.YbulkcfnoLeaves
import Derived.LaidEqlPtr
import Derived.Deep.QuietTactic
import Derived.BigQuiet
namespace Go.Proofs.Ybulkcfno
open Go Go.RowKit

theorem info56 : (Yba.prog.info? 56).map (fun i => decide (i.size = 0)) = some false := by kernel_rfl

theorem equalIn_ptr_same (w : World) (d : Nat) (a : Addr) : (Op.equalIn (d + 1) 24 (.pointer (some a)) (.pointer (some a))).run Yba.prog w = .ok true w := by
  have h := info56
  cases hj : Yba.prog.info? 56 with
  | none => rw [hj] at h; cases h
  | some j => simp [Op.equalIn, run_underlying Yba.underlying24, sizeOf, typeInfo, hj, run_sameAddr_same]

theorem equalIn_int_same (w : World) (d : Nat) (n : Int) : (Op.equalIn (d + 1) 3 (.int .i64 n) (.int .i64 n)).run Yba.prog w = .ok true w := by
  simp [Op.equalIn, run_underlying Yba.underlying3]

theorem equalIn_waiter_same (w : World) (d : Nat) (a : Addr) (n : Int) : (Op.equalIn (d + 2) 41 (.agg #[.pointer (some a), .int .i64 n]) (.agg #[.pointer (some a), .int .i64 n])).run Yba.prog w = .ok true w := by
  unfold Op.equalIn
  simp [run_underlying Yba.underlying41, part, equalIn_ptr_same w d a, equalIn_int_same w d n]

theorem neq_waiter (a : Addr) (n : Int) (w : World) : (binOp .neq 41 (.agg #[.pointer (some a), .int .i64 n]) (.agg #[.pointer (some a), .int .i64 n])).run Yba.prog w = .ok (.bool false) w := by
  simp only [binOp]
  simp [Op.equal, Op.maxDepth, equalIn_waiter_same w 9998 a n]

/-- The slice at A, of n waiters: those of l. -/
def Reads (w : World) (A : Option Addr) (l : List (Nat × Int)) : Prop :=
  ∀ (i : Nat) (hi : i < l.length), ∃ g, A = some ⟨g, 0, none⟩ ∧ w.cell? ⟨g, i * 2, none⟩ = some (.pointer (some ⟨l[i].1, 0, none⟩)) ∧ w.cell? ⟨g, i * 2 + 1, none⟩ = some (.int .i64 l[i].2)

theorem same_any (A C : Option Addr) (ca cc : Nat) (l : List (Nat × Int)) (w : World) (hl : l.length ≤ 4096) (hA : Reads w A l) (hC : Reads w C l) :
    Calls Yba.prog 7 #[.slice A l.length ca, .slice C l.length cc] w fun e w' => e = .returned (.bool true) ∧ ∃ n, w' = w.drewN n := by
  go_enter Yba.func7, Yba.ntmps7
  go_wp2
  go_loopw [13] (fun i wr => ∃ k : Nat, k ≤ l.length ∧ i = .int .i64 k ∧ ∃ n, wr = w.drewN n) (fun i _ => l.length - (intOf i).toNat)
  case atStart => exact ⟨0, Nat.zero_le _, rfl, 0, rfl⟩
  case round =>
    obtain ⟨k, hk, rfl, n, rfl⟩ := hrel
    by_cases hlt : k < l.length
    · obtain ⟨ga, rfl, a0, a1⟩ := hA k hlt
      obtain ⟨gc, rfl, c0, c1⟩ := hC k hlt
      clear hA hC
      have hn := neq_waiter ⟨l[k].1, 0, none⟩ l[k].2
      generalize l[k].1 = pb at *
      generalize l[k].2 = pn at *
      go_wp2
      go_quiet (fail)
      go_wp2
      go_roundw
      case rel => exact ⟨k + 1, by omega, by go_num, n + nq, rfl⟩
      case measure => simp [intOf]; omega
    · go_wp2
      go_ret
      exact ⟨rfl, n, rfl⟩
end Go.Proofs.Ybulkcfno
