/-
  The numbers under which this dump holds the library's lock functions and types, and that it holds them (Derived/Conc/MuLib.lean); and the contract of TryLock on a free lock, which the library lacks.
-/
import Derived.Test.YbulkcfnoFmtRows
import Derived.Conc.MuLone
import Derived.KernelRfl
namespace Go.Proofs.YbulkcfnoFmt
abbrev muLink : Go.Conc.Locks.MuLink := { lock := 17, unlock := 9, ilock := 29, iunlock := 22, lockSlow := 38, unlockSlow := 37, disable := 31, enable := 32, acquire := 34, relMerge := 35, cas32 := 33, add32 := 36, tMutex := 38, tIMutex := 36, tPMutex := 83, tPIMutex := 95, tPI32 := 97, tUP := 99, tNoCopy := 33, tU32 := 34 }
theorem muLib : Go.Conc.Locks.MuLib Ybaf.prog muLink :=
  ⟨Ybaf.func17, Ybaf.func9, Ybaf.func29, Ybaf.func22, Ybaf.func31, Ybaf.func32, Ybaf.func34, Ybaf.func35, Ybaf.func33, Ybaf.func36, Ybaf.underlying36, Ybaf.runUnderlying36, Ybaf.sizeOf36, Ybaf.isAgg36, Ybaf.zeroValue36, Ybaf.underlying38, Ybaf.runUnderlying38, Ybaf.sizeOf38, Ybaf.isAgg38, Ybaf.zeroValue38, Ybaf.underlying83, Ybaf.runUnderlying83, Ybaf.sizeOf83, Ybaf.isAgg83, Ybaf.zeroValue83, Ybaf.underlying95, Ybaf.runUnderlying95, Ybaf.sizeOf95, Ybaf.isAgg95, Ybaf.zeroValue95, Ybaf.underlying97, Ybaf.runUnderlying97, Ybaf.sizeOf97, Ybaf.isAgg97, Ybaf.zeroValue97, Ybaf.underlying99, Ybaf.runUnderlying99, Ybaf.sizeOf99, Ybaf.isAgg99, Ybaf.zeroValue99, Ybaf.underlying33, Ybaf.runUnderlying33, Ybaf.sizeOf33, Ybaf.isAgg33, Ybaf.zeroValue33, Ybaf.underlying21, Ybaf.runUnderlying21, Ybaf.sizeOf21, Ybaf.isAgg21, Ybaf.zeroValue21, (by kernel_rfl)⟩

open Go.MuLone

set_option maxRecDepth 100000 in
set_option maxHeartbeats 800000 in
/-- '(*internal/sync.Mutex).TryLock', the lock free (state 0): it is taken (state 1), true. -/
theorem itrylock_free (a : Addr) (w : World) (hc : w.cell? a = some (.int .i32 0)) (hz : w.frozen? a = false) :
    Calls Ybaf.prog 21 #[.pointer (some a)] w fun e w' => e = .returned (.bool true) ∧ w' = w.setCell a (.int .i32 1) := by
  have hd := disable muLib
  have he := enable muLib
  have ha := acquire muLib
  have hcas := run_call_cas_hit (P := Ybaf.prog) muLib.f_cas32 (by kernel_rfl) (by kernel_rfl) (by kernel_rfl) .i32 (by kernel_rfl) (y := 1) hc hz
  have hc' : (w.setCell a (.int .i32 1)).cell? a = some (.int .i32 1) := by simp [go_sem, hc]
  have hcv := run_convert_to_unsafe (P := Ybaf.prog) (src := 95) (dst := 99) muLib.underlying_tPIMutex muLib.underlying_tUP muLib.room_tIMutex hc'
  have hnot : ∀ (x : Bool) (w : World), (Op.unary .not (.bool x)).run Ybaf.prog w = .ok (.bool (!x)) w := fun _ _ => rfl
  go_enter Ybaf.func21, Ybaf.ntmps21
  go_wp2
  go_ret
  exact ⟨rfl, rfl⟩

set_option maxRecDepth 100000 in
set_option maxHeartbeats 800000 in
/-- '(*sync.Mutex).TryLock', the lock free (state 0): it is taken (state 1), true. -/
theorem trylock_free (a : Addr) (w : World) (hc : w.cell? a = some (.int .i32 0)) (hz : w.frozen? a = false) :
    Calls Ybaf.prog 8 #[.pointer (some a)] w fun e w' => e = .returned (.bool true) ∧ w' = w.setCell a (.int .i32 1) := by
  go_enter Ybaf.func8, Ybaf.ntmps8
  go_wp2_with (go_at_call 21; refine (itrylock_free a _ hc hz).mono ?_; rintro e w' ⟨rfl, rfl⟩)
  go_ret
  exact ⟨rfl, rfl⟩
end Go.Proofs.YbulkcfnoFmt
