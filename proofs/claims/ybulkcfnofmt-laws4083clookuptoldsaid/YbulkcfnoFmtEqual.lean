/-
  slices.Equal (26) of a slice of strings with itself; zzs4083czero (11) at the zero Schedule.
-/
import Derived.Test.YbulkcfnoFmtTime
import Derived.Test.YbulkcfnoFmtHeap
import Derived.Deep.QuietTactic
import Derived.BigQuiet
namespace Go.Proofs.YbulkcfnoFmt
open Go Go.RowKit

/-- A slice of strings: each element's cell holds a string. -/
def StrArg (w : World) (A : Option Addr) (n : Nat) : Prop := ∀ i, i < n → ∃ b o s, A = some ⟨b, o, none⟩ ∧ w.cell? ⟨b, o + i, none⟩ = some (.string s)

set_option maxRecDepth 100000 in
theorem equal_any (A : Option Addr) (n cap : Nat) (w : World) (hn : n ≤ maxLen) (hA : StrArg w A n) :
    Calls Ybaf.prog 26 #[.slice A n cap, .slice A n cap] w fun e w' => e = .returned (.bool true) ∧ ∃ q, w' = w.drewN q := by
  unfold maxLen at hn
  go_enter Ybaf.func26, Ybaf.ntmps26
  go_wp2
  go_loopw [13] (fun i wr => ∃ (k q : Nat), k ≤ n ∧ i = .int .i64 k ∧ wr = w.drewN q) (fun i _ => n - (intOf i).toNat)
  case atStart => exact ⟨0, 0, Nat.zero_le _, rfl, rfl⟩
  case round =>
    obtain ⟨k, q, hk, rfl, rfl⟩ := hrel
    by_cases hlt : k < n
    · obtain ⟨b, o, s, rfl, hc⟩ := hA k hlt
      clear hA
      go_wp2
      go_quiet (fail)
      go_wp2
      go_roundw
      case rel => exact ⟨k + 1, _, by omega, by go_num, rfl⟩
      case measure => simp [intOf]; omega
    · go_wp2
      go_ret
      exact ⟨rfl, q, rfl⟩

def zero61 : Array Value := #[.string ⟨#[]⟩, .string ⟨#[]⟩, .string ⟨#[]⟩, .string ⟨#[]⟩, .slice none 0 0, .int .u64 0, .int .i64 0, .pointer none, .int .u64 0, .int .i64 0, .pointer none, .int .u64 0, .int .i64 0, .pointer none]

theorem below_blk {B : Nat} {w w' : World} {b : Nat} {t : TypeId} {cs : Array Value} (h : Below B w w') (hb : Blk w b t cs) (hlt : b < B) : Blk w' b t cs := by
  unfold Blk
  rw [h.block b hlt]
  exact hb

set_option maxRecDepth 100000 in
theorem zero_any (w : World) : Calls Ybaf.prog 11 #[.agg zero61] w fun e w' => e = .returned (.bool true) ∧ Below w.heap.size w w' := by
  have hsn := @Lib.run_eql_slice_nil Ybaf.prog
  have hk := blk_new w 61 zero61
  have hb0 : Below w.heap.size w (w.alloc (.cells zero61 61)) := (Below.refl _ _).alloc (Nat.le_refl _) _
  unfold zero61
  go_enter Ybaf.func11, Ybaf.ntmps11
  go_wp2_with fail
  refine (isZero_zero _).mono ?_
  rintro e w1 ⟨rfl, hb1⟩
  have k1 := below_blk hb1 hk hk.lt
  have hb01 := hb0.trans (hb1.mono (by simp))
  have c8 := k1.cell 8
  have c9 := k1.cell 9
  have c10 := k1.cell 10
  simp [zero61] at c8 c9 c10
  clear hb1 hk hb0
  go_wp2_with fail
  refine (isZero_zero _).mono ?_
  rintro e w2 ⟨rfl, hb2⟩
  have k2 := below_blk hb2 k1 k1.lt
  have hb02 := hb01.trans (hb2.mono hb01.size)
  have d11 := k2.cell 11
  have d12 := k2.cell 12
  have d13 := k2.cell 13
  simp [zero61] at d11 d12 d13
  clear hb2 k1 hb01 c8 c9 c10
  go_wp2_with fail
  refine (isZero_zero _).mono ?_
  rintro e w3 ⟨rfl, hb3⟩
  have hb03 := hb02.trans (hb3.mono hb02.size)
  clear hb3 k2 hb02 d11 d12 d13
  go_wp2_with fail
  go_ret
  exact ⟨rfl, hb03⟩
end Go.Proofs.YbulkcfnoFmt
