/-
  The contracts of Pointer[T]'s methods, the lock free ahead of the call: Load at both instances; Store, Swap, CompareAndSwap at int.
  The lock is free again behind each, so the world is as it was but for the cell of the pointer.
-/
import Derived.Test.YbulkcfnaRows
import Derived.Test.YbulkcfnaLocks
import Derived.Test.YbulkcfnaHeap
import Derived.Test.YbulkcfnaPtrEq
import Derived.Conc.MuLone
import Derived.WalkKit
namespace Go.Proofs.Ybulkcfna
open Go.MuLone Go.RowKit

theorem size3 : (Yba.prog.info? 3).map (fun i => decide (i.size = 0)) = some false := by kernel_rfl
theorem size9 : (Yba.prog.info? 9).map (fun i => decide (i.size = 0)) = some false := by kernel_rfl
theorem info_sized {P : Program} {t : TypeId} (h : (P.info? t).map (fun i => decide (i.size = 0)) = some false) : ∃ j, P.info? t = some j ∧ j.size ≠ 0 := by
  cases hj : P.info? t with
  | none => rw [hj] at h; cases h
  | some j => rw [hj] at h; simp at h; exact ⟨j, rfl, h⟩

/-- '==' on *int, both into one block or nil. -/
theorem eqlI (p q : Option Addr) (hbl : ∀ a b, p = some a → q = some b → a.block = b.block) (w : World) : (binOp .eql 31 (.pointer p) (.pointer q)).run Yba.prog w = .ok (.bool (decide (p = q))) w := by
  obtain ⟨j, hj, hs⟩ := info_sized size3
  exact run_eql_ptrs w p q Yba.underlying31 hj hs hbl
theorem neqI (p q : Option Addr) (hbl : ∀ a b, p = some a → q = some b → a.block = b.block) (w : World) : (binOp .neq 31 (.pointer p) (.pointer q)).run Yba.prog w = .ok (.bool (!decide (p = q))) w := by
  obtain ⟨j, hj, hs⟩ := info_sized size3
  exact run_neq_ptrs w p q Yba.underlying31 hj hs hbl
/-- '==' of a *string with itself. -/
theorem eqlS (p : Option Addr) (w : World) : (binOp .eql 43 (.pointer p) (.pointer p)).run Yba.prog w = .ok (.bool true) w := by
  obtain ⟨j, hj, hs⟩ := info_sized size9
  have := run_eql_ptrs w p p Yba.underlying43 hj hs (fun a b ha hb => by rw [ha] at hb; cases hb; rfl)
  simpa using this
theorem neqS (p : Option Addr) (w : World) : (binOp .neq 43 (.pointer p) (.pointer p)).run Yba.prog w = .ok (.bool false) w := by
  obtain ⟨j, hj, hs⟩ := info_sized size9
  have := run_neq_ptrs w p p Yba.underlying43 hj hs (fun a b ha hb => by rw [ha] at hb; cases hb; rfl)
  simpa using this

/-- Pointer[string].Load -/
theorem loadS_any (b off : Nat) (p : Value) (w : World)
    (h0 : w.cell? ⟨b, off, none⟩ = some (.int .i32 0)) (h2 : w.cell? ⟨b, off + 2, none⟩ = some p)
    (f0 : w.frozen? ⟨b, off, none⟩ = false) :
    Calls Yba.prog 12 #[.pointer (some ⟨b, off, none⟩)] w fun e w' => e = .returned p ∧ w = w' := by
  go_enter_defers Yba.func12, Yba.ntmps12
  go_wp2_with (go_at_call 13; refine (lock_free muLib ⟨b, off, none⟩ _ h0 f0).mono ?_; rintro e w' ⟨rfl, rfl⟩)
  refine leaves_cons (f := 8) (args := #[.pointer (some ⟨b, off, none⟩)]) (by simp) (by simp [go_sem]) ?_
  refine (unlock_deferred muLib ⟨b, off, none⟩ .returning _ ?_ ?_).mono ?_
  · exact World.cell?_setCell_same w ⟨b, off, none⟩ (.int .i32 1) h0
  · simp [f0]
  rintro e u' w'' ⟨rfl, rfl, rfl⟩
  exact ⟨_, results_tmp rfl _ _ _, rfl, (setCell_back w _ _ _ h0).symm⟩

/-- Pointer[int].Load -/
theorem loadI_any (b off : Nat) (p : Value) (w : World)
    (h0 : w.cell? ⟨b, off, none⟩ = some (.int .i32 0)) (h2 : w.cell? ⟨b, off + 2, none⟩ = some p)
    (f0 : w.frozen? ⟨b, off, none⟩ = false) :
    Calls Yba.prog 6 #[.pointer (some ⟨b, off, none⟩)] w fun e w' => e = .returned p ∧ w = w' := by
  go_enter_defers Yba.func6, Yba.ntmps6
  go_wp2_with (go_at_call 13; refine (lock_free muLib ⟨b, off, none⟩ _ h0 f0).mono ?_; rintro e w' ⟨rfl, rfl⟩)
  refine leaves_cons (f := 8) (args := #[.pointer (some ⟨b, off, none⟩)]) (by simp) (by simp [go_sem]) ?_
  refine (unlock_deferred muLib ⟨b, off, none⟩ .returning _ ?_ ?_).mono ?_
  · exact World.cell?_setCell_same w ⟨b, off, none⟩ (.int .i32 1) h0
  · simp [f0]
  rintro e u' w'' ⟨rfl, rfl, rfl⟩
  exact ⟨_, results_tmp rfl _ _ _, rfl, (setCell_back w _ _ _ h0).symm⟩

theorem locked_store (w : World) (b off : Nat) (q : Value) (h0 : w.cell? ⟨b, off, none⟩ = some (.int .i32 0)) :
    ((w.setCell ⟨b, off, none⟩ (.int .i32 1)).setCell ⟨b, off + 2, none⟩ q).setCell ⟨b, off, none⟩ (.int .i32 0) = w.setCell ⟨b, off + 2, none⟩ q := by
  rw [setCell_comm _ ⟨b, off, none⟩ ⟨b, off + 2, none⟩ _ _ (by simp) rfl rfl]
  rw [setCell_back]
  rw [World.cell?_setCell_other _ ⟨b, off + 2, none⟩ ⟨b, off, none⟩ _ (by simp)]
  exact h0

/-- Pointer[int].Store -/
theorem store_any (b off : Nat) (p q : Option Addr) (w : World)
    (h0 : w.cell? ⟨b, off, none⟩ = some (.int .i32 0)) (h2 : w.cell? ⟨b, off + 2, none⟩ = some (.pointer p))
    (f0 : w.frozen? ⟨b, off, none⟩ = false) (f2 : w.frozen? ⟨b, off + 2, none⟩ = false) :
    Calls Yba.prog 9 #[.pointer (some ⟨b, off, none⟩), .pointer q] w fun e w' => e = .returned (.tuple #[]) ∧ w.setCell ⟨b, off + 2, none⟩ (.pointer q) = w' := by
  go_enter_defers Yba.func9, Yba.ntmps9
  go_wp2_with (go_at_call 13; refine (lock_free muLib ⟨b, off, none⟩ _ h0 f0).mono ?_; rintro e w' ⟨rfl, rfl⟩)
  refine leaves_cons (f := 8) (args := #[.pointer (some ⟨b, off, none⟩)]) (by simp) (by simp [go_sem]) ?_
  refine (unlock_deferred muLib ⟨b, off, none⟩ .returning _ ?_ ?_).mono ?_
  · exact (World.cell?_setCell_other _ ⟨b, off + 2, none⟩ ⟨b, off, none⟩ _ (by simp)).trans (World.cell?_setCell_same w ⟨b, off, none⟩ (.int .i32 1) h0)
  · simp [f0]
  rintro e u' w'' ⟨rfl, rfl, rfl⟩
  exact ⟨_, results_none rfl _ _ _, rfl, (locked_store w b off _ h0).symm⟩

/-- Pointer[int].Swap -/
theorem swap_any (b off : Nat) (p q : Option Addr) (w : World)
    (h0 : w.cell? ⟨b, off, none⟩ = some (.int .i32 0)) (h2 : w.cell? ⟨b, off + 2, none⟩ = some (.pointer p))
    (f0 : w.frozen? ⟨b, off, none⟩ = false) (f2 : w.frozen? ⟨b, off + 2, none⟩ = false) :
    Calls Yba.prog 10 #[.pointer (some ⟨b, off, none⟩), .pointer q] w fun e w' => e = .returned (.pointer p) ∧ w.setCell ⟨b, off + 2, none⟩ (.pointer q) = w' := by
  go_enter_defers Yba.func10, Yba.ntmps10
  go_wp2_with (go_at_call 13; refine (lock_free muLib ⟨b, off, none⟩ _ h0 f0).mono ?_; rintro e w' ⟨rfl, rfl⟩)
  refine leaves_cons (f := 8) (args := #[.pointer (some ⟨b, off, none⟩)]) (by simp) (by simp [go_sem]) ?_
  refine (unlock_deferred muLib ⟨b, off, none⟩ .returning _ ?_ ?_).mono ?_
  · exact (World.cell?_setCell_other _ ⟨b, off + 2, none⟩ ⟨b, off, none⟩ _ (by simp)).trans (World.cell?_setCell_same w ⟨b, off, none⟩ (.int .i32 1) h0)
  · simp [f0]
  rintro e u' w'' ⟨rfl, rfl, rfl⟩
  exact ⟨_, results_tmp rfl _ _ _, rfl, (locked_store w b off _ h0).symm⟩

/-- Pointer[int].CompareAndSwap, the pointer another: nothing turns. -/
theorem cas_miss (b off : Nat) (p o q : Option Addr) (w : World)
    (h0 : w.cell? ⟨b, off, none⟩ = some (.int .i32 0)) (h2 : w.cell? ⟨b, off + 2, none⟩ = some (.pointer p))
    (f0 : w.frozen? ⟨b, off, none⟩ = false) (hbl : ∀ a b, p = some a → o = some b → a.block = b.block) (hpo : decide (p = o) = false) :
    Calls Yba.prog 11 #[.pointer (some ⟨b, off, none⟩), .pointer o, .pointer q] w fun e w' => e = .returned (.bool false) ∧ w = w' := by
  have hne := neqI p o hbl
  rw [hpo] at hne
  clear hbl hpo
  go_enter_defers Yba.func11, Yba.ntmps11
  go_wp2_with (go_at_call 13; refine (lock_free muLib ⟨b, off, none⟩ _ h0 f0).mono ?_; rintro e w' ⟨rfl, rfl⟩)
  refine leaves_cons (f := 8) (args := #[.pointer (some ⟨b, off, none⟩)]) (by simp) (by simp [go_sem]) ?_
  refine (unlock_deferred muLib ⟨b, off, none⟩ .returning _ ?_ ?_).mono ?_
  · exact World.cell?_setCell_same w ⟨b, off, none⟩ (.int .i32 1) h0
  · simp [f0]
  rintro e u' w'' ⟨rfl, rfl, rfl⟩
  exact ⟨_, results_tmp rfl _ _ _, rfl, (setCell_back w _ _ _ h0).symm⟩

/-- Pointer[int].CompareAndSwap, the pointer the one asked for: it is stored. -/
theorem cas_hit (b off : Nat) (p o q : Option Addr) (w : World)
    (h0 : w.cell? ⟨b, off, none⟩ = some (.int .i32 0)) (h2 : w.cell? ⟨b, off + 2, none⟩ = some (.pointer p))
    (f0 : w.frozen? ⟨b, off, none⟩ = false) (f2 : w.frozen? ⟨b, off + 2, none⟩ = false) (hbl : ∀ a b, p = some a → o = some b → a.block = b.block) (hpo : decide (p = o) = true) :
    Calls Yba.prog 11 #[.pointer (some ⟨b, off, none⟩), .pointer o, .pointer q] w fun e w' => e = .returned (.bool true) ∧ w.setCell ⟨b, off + 2, none⟩ (.pointer q) = w' := by
  have hne := neqI p o hbl
  rw [hpo] at hne
  clear hbl hpo
  go_enter_defers Yba.func11, Yba.ntmps11
  go_wp2_with (go_at_call 13; refine (lock_free muLib ⟨b, off, none⟩ _ h0 f0).mono ?_; rintro e w' ⟨rfl, rfl⟩)
  refine leaves_cons (f := 8) (args := #[.pointer (some ⟨b, off, none⟩)]) (by simp) (by simp [go_sem]) ?_
  refine (unlock_deferred muLib ⟨b, off, none⟩ .returning _ ?_ ?_).mono ?_
  · exact (World.cell?_setCell_other _ ⟨b, off + 2, none⟩ ⟨b, off, none⟩ _ (by simp)).trans (World.cell?_setCell_same w ⟨b, off, none⟩ (.int .i32 1) h0)
  · simp [f0]
  rintro e u' w'' ⟨rfl, rfl, rfl⟩
  exact ⟨_, results_tmp rfl _ _ _, rfl, (locked_store w b off _ h0).symm⟩
end Go.Proofs.Ybulkcfna
