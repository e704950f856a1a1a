/-
  errors.New (4), errors.Is (10) at a *fmt.wrapError that wraps the target, fmt.Errorf (30) at "%w %s" of a sentinel and a string.
-/
import Derived.Test.YbulkcfnoFmtHeap
import Derived.Test.YbulkcfnoFmtRows
import Derived.LaidEql
import Derived.Stop.Asserts
import Derived.Stop.CallBack
import Derived.Stop.IfaceNil
import Derived.RowKitTokens
import GoSem.ClaimData
namespace Go.Proofs.YbulkcfnoFmt
open Go Go.RowKit Go.Extern.Stop Go.Stop Go.Extern

theorem isTypeOf (v : Value) (w : World) : (Extern.ReflectliteType.typeOf #[.iface 73 v]).run Ybaf.prog w = .ok (.iface 103 (.agg #[.pointer (some ⟨1, 73, none⟩)])) w := by kernel_rfl
theorem isComparable (w : World) : (callFunc 77 #[.agg #[.pointer (some ⟨1, 73, none⟩)]]).run Ybaf.prog w = .ok (.value (.bool true)) w := by kernel_rfl
theorem isMethodComparable (v : Value) (w : World) : (Go.method 340 103 v "Comparable").run Ybaf.prog w = .ok (77, v) w := by kernel_rfl
theorem isComp : (Ybaf.prog.info? 73).map (·.comparable) = some true := by kernel_rfl
theorem isSize : (Ybaf.prog.info? 75).map (·.size) = some 1 := by kernel_rfl
theorem noIsW (v : Value) (xT : TypeId) (w : World) : (Instr.typeAssert (.iface 113 v) xT 105 true).run Ybaf.prog w = .ok (.tuple #[.nilIface, .bool false]) w := run_typeAssert_lacksB Ybaf.underlying105 (by kernel_rfl) (by kernel_rfl) v xT w
theorem hasUnwrapW (v : Value) (xT : TypeId) (w : World) : (Instr.typeAssert (.iface 113 v) xT 108 true).run Ybaf.prog w = .ok (.tuple #[.iface 113 v, .bool true]) w := run_typeAssert_hasB Ybaf.underlying108 (by kernel_rfl) v xT w
theorem methodUnwrap (v : Value) (w : World) : (Go.method 340 113 v "Unwrap").run Ybaf.prog w = .ok (87, v) w := by kernel_rfl

/-- errors.New: a new block that holds the text. -/
theorem new_any (s : ByteArray) (w : World) : Calls Ybaf.prog 4 #[.string s] w fun e w' => e = .returned (.iface 73 (.pointer (some ⟨w.heap.size, 0, none⟩))) ∧ w' = w.alloc (.cells #[.string s] 75) := by
  go_enter Ybaf.func4, Ybaf.ntmps4
  go_wp2
  go_ret
  exact ⟨rfl, rfl⟩

set_option maxRecDepth 100000 in
set_option maxHeartbeats 1000000 in
/-- errors.Is(e, x), e a *fmt.wrapError that wraps x itself: one Unwrap, then equal. -/
theorem is_wrap (pb po : Nat) (b : Addr) (w : World) (h1 : w.cell? ⟨pb, po + 1, none⟩ = some (.iface 73 (.pointer (some b)))) :
    Calls Ybaf.prog 10 #[.iface 113 (.pointer (some ⟨pb, po, none⟩)), .iface 73 (.pointer (some b))] w fun e w' => e = .returned (.bool true) ∧ w' = w := by
  obtain ⟨i, hi, hcmp⟩ := Option.map_eq_some_iff.1 isComp
  obtain ⟨j, hj, hjs⟩ := Option.map_eq_some_iff.1 isSize
  have h8 := @run_callFunc_extern Ybaf.prog 23 _ Extern.ReflectliteType.typeOf Ybaf.func23 (by kernel_rfl) (by kernel_rfl) (by kernel_rfl) (by kernel_rfl)
  have tT := isTypeOf
  have cT := isComparable
  have mR := isMethodComparable
  have nW := noIsW
  have uW := hasUnwrapW
  have mU := methodUnwrap
  have heq := run_eql_iface_ptr_same (P := Ybaf.prog) w b Ybaf.underlying52 Ybaf.underlying73 hi hcmp hj
  have hty := run_eql_iface_types (P := Ybaf.prog) 113 73 (.pointer (some ⟨pb, po, none⟩)) (.pointer (some b)) Ybaf.underlying52 (by decide) w
  go_enter Ybaf.func10, Ybaf.ntmps10
  go_wp2
  refine wp_loop_rounds 2 ?_
  rw [rounds_succ]
  go_wp2
  rw [rounds_succ]
  go_wp2
  go_ret
  exact ⟨rfl, rfl⟩
end Go.Proofs.YbulkcfnoFmt
