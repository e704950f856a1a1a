/-
  (*Queue).lookupSchedule (19), (*scheduleEntry).view (20).
-/
import Derived.Test.YbulkcfnoFmtErrf
import Derived.Test.YbulkcfnoFmtSame
import Derived.Test.YbulkcfnoFmtMap
namespace Go.Proofs.YbulkcfnoFmt
open Go Go.RowKit Go.Extern.Stop Go.Stop Go.Extern

/-- The cells of the queue: its sync, its map of schedules, its list of them. -/
def qCells (st : Int) (sync : Value) (mb : Nat) (sl : Value) : Array Value :=
  #[.pointer none, sync, .int .i32 st, .int .u32 0, .map none, .slice none 0 0, .slice none 0 0, .int .u64 0, .chan none, .map none, .int .u64 0, .int .u64 0, .int .i64 0, .pointer none, .map none, .map none, .slice none 0 0, .slice none 0 0, .map (some mb), sl, .chan none]

/-- The cells of an entry made of a schedule. -/
def Sch.entry (s : Sch) : Array Value :=
  #[.string s.id, .string s.nm, .string ⟨#[]⟩, .string s.sp, .slice s.A s.n s.cap, .int .u64 (tNs s.cr), .int .i64 (tSec s.cr), .pointer none, .int .u64 0, .int .i64 0, .pointer none, .int .u64 0, .int .i64 0, .pointer none, .nilIface, .slice none 0 0, .int .u64 (tNs s.nx), .int .i64 (tSec s.nx), .pointer none]

set_option maxRecDepth 100000 in
set_option maxHeartbeats 1000000 in
theorem look_found (qb mb n : Nat) (f : ByteArray → Value) (h : ByteArray → Bool) (id : ByteArray) (eb : Nat) (w : World) (hq : w.cell? ⟨qb, 18, none⟩ = some (.map (some mb))) (hm : MapIs Ybaf.prog 9 (.pointer none) w mb n f h) (hid : id.size ≤ maxLen) (hh : h id = true) (hf : f id = .pointer (some ⟨eb, 0, none⟩)) :
    Calls Ybaf.prog 19 #[.pointer (some ⟨qb, 0, none⟩), .string id] w fun e w' => e = .returned (.tuple #[.pointer (some ⟨eb, 0, none⟩), .nilIface]) ∧ w = w' := by
  have hl := hm.look_ok (t := 29) Ybaf.underlying9 Ybaf.underlying29 (Ybaf.zeroValue56 w) hid
  rw [hh, hf] at hl
  clear hm hh hf
  go_enter Ybaf.func19, Ybaf.ntmps19
  go_wp2
  go_ret2
  exact ⟨rfl, rfl⟩

set_option maxRecDepth 100000 in
set_option maxHeartbeats 1000000 in
theorem look_none (F : Interp) (a : Addr) (s : ByteArray) (qb mb n : Nat) (f : ByteArray → Value) (h : ByteArray → Bool) (id : ByteArray) (w : World) (hF : F.answers w.tape) (hg : w.cell? ⟨0, 0, none⟩ = some (.iface 73 (.pointer (some a)))) (hs : w.cell? a = some (.string s))
    (hq : w.cell? ⟨qb, 18, none⟩ = some (.map (some mb))) (hm : MapIs Ybaf.prog 9 (.pointer none) w mb n f h) (hid : id.size ≤ maxLen) (hh : h id = false) :
    Calls Ybaf.prog 19 #[.pointer (some ⟨qb, 0, none⟩), .string id] w fun e w' => ∃ N, e = .returned (.tuple #[.pointer none, .iface 113 (.pointer (some ⟨N, 0, none⟩))]) ∧ w.heap.size ≤ N ∧ (∃ T, Blk w' N 164 #[.string T, .iface 73 (.pointer (some a))]) ∧ Below w.heap.size w w' := by
  have hl := hm.look_ok (t := 29) Ybaf.underlying9 Ybaf.underlying29 (Ybaf.zeroValue56 w) hid
  rw [hh] at hl
  generalize f id = fv at hl
  have hlt : a.block < w.heap.size := World.block_lt_of_cell? w a hs
  have hc := Below.cell (((Below.refl w.heap.size w).alloc (Nat.le_refl _) (.cells #[.iface 73 (.pointer (some a)), .iface 9 (.string id)] 20))) hlt
  have herr := errorf_any F a s id w.heap.size (w.alloc (.cells #[.iface 73 (.pointer (some a)), .iface 9 (.string id)] 20)) hF (by simp [go_sem]) (by simp [go_sem]) (hc.trans hs)
  clear hm hh hc hs
  go_enter Ybaf.func19, Ybaf.ntmps19
  go_wp2_with fail
  refine herr.mono ?_
  rintro e w' ⟨rfl, T, rfl⟩
  go_wp2
  go_ret2
  refine ⟨_, rfl, by simp, ⟨T, ?_⟩, ?_⟩
  · have hb := (blk_new (w.alloc (.cells #[.iface 73 (.pointer (some a)), .iface 9 (.string id)] 20)) 164 #[.string T, .iface 73 (.pointer (some a))]).drew
    rw [World.size_alloc] at hb
    exact hb
  · exact (((Below.refl _ w).alloc (Nat.le_refl _) _).alloc (by simp) _).drew

set_option maxRecDepth 100000 in
set_option maxHeartbeats 1000000 in
theorem view_any (s : Sch) (eb : Nat) (w : World) (he : Blk w eb 65 s.entry) :
    Calls Ybaf.prog 20 #[.pointer (some ⟨eb, 0, none⟩)] w fun e w' => e = .returned (.agg s.view) ∧ Below w.heap.size w w' := by
  have hlt := he.lt
  have c := fun i => he.cell i
  have c0 := c 0
  have c1 := c 1
  have c2 := c 2
  have c3 := c 3
  have c4 := c 4
  have c5 := c 5
  have c6 := c 6
  have c7 := c 7
  have c8 := c 8
  have c9 := c 9
  have c10 := c 10
  have c11 := c 11
  have c12 := c 12
  have c13 := c 13
  have c16 := c 16
  have c17 := c 17
  have c18 := c 18
  simp [Sch.entry] at c0 c1 c2 c3 c4 c5 c6 c7 c8 c9 c10 c11 c12 c13 c16 c17 c18
  clear c he
  have hne : w.heap.size ≠ eb := by omega
  have hne1 : w.heap.size + 1 ≠ eb := by omega
  unfold Sch.view
  go_enter Ybaf.func20, Ybaf.ntmps20
  go_wp2
  refine bodyPost_ret (v := .agg s.view) (by simp [results, Ybaf.results20, go_sem, Sch.view]) rfl ⟨rfl, ?_⟩
  exact ((Below.refl _ w).alloc (Nat.le_refl _) _).alloc (by simp) _
end Go.Proofs.YbulkcfnoFmt
