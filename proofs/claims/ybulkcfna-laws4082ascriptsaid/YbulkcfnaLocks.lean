/-
  The numbers under which this dump holds the library's lock functions and types, and that it holds them (Derived/Conc/MuLib.lean); and the contract of TryLock on a free lock, which the library lacks.
-/
import Derived.Test.YbulkcfnaProg
import Derived.Conc.MuLone
import Derived.KernelRfl
namespace Go.Proofs.Ybulkcfna
abbrev muLink : Go.Conc.Locks.MuLink := { lock := 13, unlock := 8, ilock := 16, iunlock := 15, lockSlow := 24, unlockSlow := 23, disable := 17, enable := 18, acquire := 20, relMerge := 21, cas32 := 19, add32 := 22, tMutex := 30, tIMutex := 28, tPMutex := 50, tPIMutex := 51, tPI32 := 53, tUP := 55, tNoCopy := 25, tU32 := 26 }
theorem muLib : Go.Conc.Locks.MuLib Yba.prog muLink :=
  ⟨Yba.func13, Yba.func8, Yba.func16, Yba.func15, Yba.func17, Yba.func18, Yba.func20, Yba.func21, Yba.func19, Yba.func22, Yba.underlying28, Yba.runUnderlying28, Yba.sizeOf28, Yba.isAgg28, Yba.zeroValue28, Yba.underlying30, Yba.runUnderlying30, Yba.sizeOf30, Yba.isAgg30, Yba.zeroValue30, Yba.underlying50, Yba.runUnderlying50, Yba.sizeOf50, Yba.isAgg50, Yba.zeroValue50, Yba.underlying51, Yba.runUnderlying51, Yba.sizeOf51, Yba.isAgg51, Yba.zeroValue51, Yba.underlying53, Yba.runUnderlying53, Yba.sizeOf53, Yba.isAgg53, Yba.zeroValue53, Yba.underlying55, Yba.runUnderlying55, Yba.sizeOf55, Yba.isAgg55, Yba.zeroValue55, Yba.underlying25, Yba.runUnderlying25, Yba.sizeOf25, Yba.isAgg25, Yba.zeroValue25, Yba.underlying21, Yba.runUnderlying21, Yba.sizeOf21, Yba.isAgg21, Yba.zeroValue21, (by kernel_rfl)⟩

open Go.MuLone

set_option maxHeartbeats 800000 in
/-- '(*internal/sync.Mutex).TryLock', the lock free (state 0): it is taken (state 1), true. -/
theorem itrylock_free (a : Addr) (w : World) (hc : w.cell? a = some (.int .i32 0)) (hz : w.frozen? a = false) :
    Calls Yba.prog 14 #[.pointer (some a)] w fun e w' => e = .returned (.bool true) ∧ w' = w.setCell a (.int .i32 1) := by
  have hd := disable muLib
  have he := enable muLib
  have ha := acquire muLib
  have hcas := run_call_cas_hit (P := Yba.prog) muLib.f_cas32 (by kernel_rfl) (by kernel_rfl) (by kernel_rfl) .i32 (by kernel_rfl) (y := 1) hc hz
  have hc' : (w.setCell a (.int .i32 1)).cell? a = some (.int .i32 1) := by simp [go_sem, hc]
  have hcv := run_convert_to_unsafe (P := Yba.prog) (src := 51) (dst := 55) muLib.underlying_tPIMutex muLib.underlying_tUP muLib.room_tIMutex hc'
  have hnot : ∀ (x : Bool) (w : World), (Op.unary .not (.bool x)).run Yba.prog w = .ok (.bool (!x)) w := fun _ _ => rfl
  go_enter Yba.func14, Yba.ntmps14
  go_wp2
  go_ret
  exact ⟨rfl, rfl⟩

set_option maxHeartbeats 800000 in
/-- '(*sync.Mutex).TryLock', the lock free (state 0): it is taken (state 1), true. -/
theorem trylock_free (a : Addr) (w : World) (hc : w.cell? a = some (.int .i32 0)) (hz : w.frozen? a = false) :
    Calls Yba.prog 7 #[.pointer (some a)] w fun e w' => e = .returned (.bool true) ∧ w' = w.setCell a (.int .i32 1) := by
  go_enter Yba.func7, Yba.ntmps7
  go_wp2_with (go_at_call 14; refine (itrylock_free a _ hc hz).mono ?_; rintro e w' ⟨rfl, rfl⟩)
  go_ret
  exact ⟨rfl, rfl⟩
end Go.Proofs.Ybulkcfna
