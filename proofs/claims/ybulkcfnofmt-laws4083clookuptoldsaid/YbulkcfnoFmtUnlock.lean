/-
  The law's closure (5), (*Queue).unlock (18) as a deferred call.
-/
import Derived.Test.YbulkcfnoFmtLook
import Derived.Test.YbulkcfnoFmtLocks
import Derived.Test.YbulkcfnoFmtCells
import Derived.Defers
import Derived.Laws.EntriesVeiled
namespace Go.Proofs.YbulkcfnoFmt
open Go Go.RowKit Go.Extern.Stop Go.Stop Go.Extern Go.MuLone

/-- What the closure answers. -/
def said (fl : Bool) (p : Addr) : Value := if fl then .iface 73 (.pointer (some p)) else .nilIface

set_option maxHeartbeats 400000 in
theorem sync_any (cb fb sb : Nat) (fl : Bool) (p : Addr) (w : World) (hc : w.cell? ⟨cb, 0, none⟩ = some (.int .i64 0)) (hcz : w.frozen? ⟨cb, 0, none⟩ = false) (hf : w.cell? ⟨fb, 0, none⟩ = some (.bool fl)) (hs : w.cell? ⟨sb, 0, none⟩ = some (.iface 73 (.pointer (some p)))) (h1 : cb ≠ fb) (h2 : cb ≠ sb) :
    Calls Ybaf.prog 5 #[.pointer (some ⟨cb, 0, none⟩), .pointer (some ⟨fb, 0, none⟩), .pointer (some ⟨sb, 0, none⟩)] w fun e w' => e = .returned (said fl p) ∧ w' = w.setCell ⟨cb, 0, none⟩ (.int .i64 1) := by
  have hf' : (w.setCell ⟨cb, 0, none⟩ (.int .i64 1)).cell? ⟨fb, 0, none⟩ = some (.bool fl) := (World.cell?_setCell_other w ⟨cb, 0, none⟩ ⟨fb, 0, none⟩ _ (by simp)).trans hf
  have hs' : (w.setCell ⟨cb, 0, none⟩ (.int .i64 1)).cell? ⟨sb, 0, none⟩ = some (.iface 73 (.pointer (some p))) := (World.cell?_setCell_other w ⟨cb, 0, none⟩ ⟨sb, 0, none⟩ _ (by simp)).trans hs
  cases fl with
  | true =>
    unfold said
    go_enter Ybaf.func5, Ybaf.ntmps5
    go_wp2
    go_ret
    exact ⟨rfl, rfl⟩
  | false =>
    unfold said
    go_enter Ybaf.func5, Ybaf.ntmps5
    go_wp2
    go_ret
    exact ⟨rfl, rfl⟩

/-- The closure as a value. -/
def syncV (cb fb sb : Nat) : Value := .func (.func 5) #[] #[.pointer (some ⟨cb, 0, none⟩), .pointer (some ⟨fb, 0, none⟩), .pointer (some ⟨sb, 0, none⟩)]

/-- The world behind unlock. -/
def unlW (fl : Bool) (p : Addr) (qb cb rb : Nat) (w : World) : World :=
  if fl then ((w.setCell ⟨qb, 2, none⟩ (.int .i32 0)).setCell ⟨cb, 0, none⟩ (.int .i64 1)).setCell ⟨rb, 0, none⟩ (said fl p) else (w.setCell ⟨qb, 2, none⟩ (.int .i32 0)).setCell ⟨cb, 0, none⟩ (.int .i64 1)

set_option maxRecDepth 100000 in
set_option maxHeartbeats 1000000 in
theorem unlock_any (qb cb fb sb rb mb : Nat) (sl old : Value) (fl : Bool) (p : Addr) (u : FrameMode) (w : World) (hq : Blk w qb 50 (qCells 1 (syncV cb fb sb) mb sl)) (hc : Blk w cb 3 #[.int .i64 0]) (hf : Blk w fb 4 #[.bool fl]) (hs : Blk w sb 52 #[.iface 73 (.pointer (some p))]) (hr : Blk w rb 52 #[old]) :
    CallsD Ybaf.prog 18 #[.pointer (some ⟨qb, 0, none⟩), .pointer (some ⟨rb, 0, none⟩)] u w fun e u' w' => u' = u ∧ (e = .returned (.tuple #[]) ∧ w' = unlW fl p qb cb rb w) := by
  have q2 := hq.cell 2
  have q2z := hq.frozen 2
  simp [qCells] at q2
  have hq1 := hq.set 2 (.int .i32 0)
  have hqc := hq.ne hc (by decide)
  have hqf := hq.ne hf (by decide)
  have hqs := hq.ne hs (by decide)
  have hqr := hq.ne hr (by decide)
  have hcf := hc.ne hf (by decide)
  have hcs := hc.ne hs (by decide)
  have hcr := hc.ne hr (by decide)
  have hc1 := hc.setOther hqc 2 (.int .i32 0)
  have hf1 := hf.setOther hqf 2 (.int .i32 0)
  have hs1 := hs.setOther hqs 2 (.int .i32 0)
  have hr1 := hr.setOther hqr 2 (.int .i32 0)
  have q1 := hq1.cell 1
  simp [qCells, syncV] at q1
  have c1 := hc1.cell 0
  have c1z := hc1.frozen 0
  have f1 := hf1.cell 0
  have s1 := hs1.cell 0
  simp at c1 f1 s1
  have hr2 := hr1.setOther hcr 0 (.int .i64 1)
  have r2 := hr2.cell 0
  have r2z := hr2.frozen 0
  simp at r2
  cases fl with
  | true =>
    unfold unlW
    simp only [said, if_true]
    go_enter_d Ybaf.func18, Ybaf.ntmps18
    go_wp2_with fail
    refine (unlock_held muLib ⟨qb, 2, none⟩ w q2 q2z).mono ?_
    rintro e w1 ⟨rfl, rfl⟩
    go_wp2_with fail
    refine (sync_any cb fb sb true p _ c1 c1z f1 s1 hcf hcs).mono ?_
    rintro e w1 ⟨rfl, rfl⟩
    simp only [said, if_true]
    go_wp2_with fail
    go_end0
    exact ⟨rfl, rfl⟩
  | false =>
    unfold unlW
    simp only [said, Bool.false_eq_true, if_false]
    go_enter_d Ybaf.func18, Ybaf.ntmps18
    go_wp2_with fail
    refine (unlock_held muLib ⟨qb, 2, none⟩ w q2 q2z).mono ?_
    rintro e w1 ⟨rfl, rfl⟩
    go_wp2_with fail
    refine (sync_any cb fb sb false p _ c1 c1z f1 s1 hcf hcs).mono ?_
    rintro e w1 ⟨rfl, rfl⟩
    simp only [said, Bool.false_eq_true, if_false]
    go_wp2_with fail
    go_end0
    exact ⟨rfl, rfl⟩
end Go.Proofs.YbulkcfnoFmt
