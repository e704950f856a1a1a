/-
  zzs4083csame (12): the view of a schedule against what it was made of: true.
-/
import Derived.Test.YbulkcfnoFmtEqual
import Derived.Deep.RegionHeld3
import Derived.Deep.RegionWith
import Derived.Deep.Cut
import Derived.Deep.CutRange
namespace Go.Proofs.YbulkcfnoFmt
open Go Go.RowKit

/-- One schedule as it came in. -/
structure Sch where
  id : ByteArray
  nm : ByteArray
  sp : ByteArray
  A : Option Addr
  n : Nat
  cap : Nat
  cr : Int
  nx : Int

/-- Its six cells; the cells of its view. -/
def Sch.cells (s : Sch) : Array Value := #[.string s.id, .string s.nm, .string s.sp, .slice s.A s.n s.cap, .int .i64 s.cr, .int .i64 s.nx]
def Sch.view (s : Sch) : Array Value := #[.string s.id, .string s.nm, .string ⟨#[]⟩, .string s.sp, .slice s.A s.n s.cap, .int .u64 (tNs s.cr), .int .i64 (tSec s.cr), .pointer none, .int .u64 0, .int .i64 0, .pointer none, .int .u64 (tNs s.nx), .int .i64 (tSec s.nx), .pointer none]

/-- What is known of it: its numbers fit, its command's cells hold strings. -/
structure Sch.Ok (s : Sch) (w : World) : Prop where
  cr0 : -9223372036854775808 ≤ s.cr
  cr1 : s.cr ≤ 9223372036854775807
  nx0 : -9223372036854775808 ≤ s.nx
  nx1 : s.nx ≤ 9223372036854775807
  n : s.n ≤ maxLen
  cmd : StrArg w s.A s.n
  lt : ∀ b o, s.A = some ⟨b, o, none⟩ → 0 < s.n → b < w.heap.size

theorem StrArg.below {w w' : World} {A : Option Addr} {n : Nat} (h : StrArg w A n) {B : Nat} (hb : Below B w w') (hlt : ∀ b o, A = some ⟨b, o, none⟩ → 0 < n → b < B) : StrArg w' A n := by
  intro i hi
  obtain ⟨b, o, s, e, hc⟩ := h i hi
  exact ⟨b, o, s, e, (hb.cell (p := ⟨b, o + i, none⟩) (hlt b o e (by omega))).trans hc⟩

theorem below_drewN' (w : World) (q : Nat) : Below w.heap.size w (w.drewN q) := ⟨rfl, rfl, rfl, Nat.le_refl _, fun _ _ => rfl⟩

set_option maxRecDepth 100000 in
set_option maxHeartbeats 2000000 in
theorem csame_any (s : Sch) (w : World) (hs : s.Ok w) : Calls Ybaf.prog 12 #[.agg s.view, .agg s.cells] w fun e w' => e = .returned (.bool true) ∧ Below w.heap.size w w' := by
  obtain ⟨cr0, cr1, nx0, nx1, hn, hcmd, hlt⟩ := hs
  have hsn := @Lib.run_eql_slice_nil Ybaf.prog
  have hnot : ∀ (x : Bool) (w : World), (Op.unary .not (.bool x)).run Ybaf.prog w = .ok (.bool (!x)) w := fun _ _ => rfl
  have hkg := ((blk_new w 61 s.view).alloc (.cells s.cells 55)).alloc (.cells #[.int .u64 0, .int .i64 0, .pointer none] 27)
  have hks := (blk_new (w.alloc (.cells s.view 61)) 55 s.cells).alloc (.cells #[.int .u64 0, .int .i64 0, .pointer none] 27)
  have hkb := blk_new ((w.alloc (.cells s.view 61)).alloc (.cells s.cells 55)) 27 #[.int .u64 0, .int .i64 0, .pointer none]
  have hb0 : Below w.heap.size w (((w.alloc (.cells s.view 61)).alloc (.cells s.cells 55)).alloc (.cells #[.int .u64 0, .int .i64 0, .pointer none] 27)) := (((Below.refl _ _).alloc (Nat.le_refl _) _).alloc (by simp) _).alloc (by simp; omega) _
  simp only [World.size_alloc] at hks hkb
  unfold Sch.view Sch.cells at *
  go_enter Ybaf.func12, Ybaf.ntmps12
  go_wp2_with fail
  generalize ((w.alloc (.cells #[.string s.id, .string s.nm, .string ⟨#[]⟩, .string s.sp, .slice s.A s.n s.cap, .int .u64 (tNs s.cr), .int .i64 (tSec s.cr), .pointer none, .int .u64 0, .int .i64 0, .pointer none, .int .u64 (tNs s.nx), .int .i64 (tSec s.nx), .pointer none] 61)).alloc (.cells #[.string s.id, .string s.nm, .string s.sp, .slice s.A s.n s.cap, .int .i64 s.cr, .int .i64 s.nx] 55)).alloc (.cells #[.int .u64 0, .int .i64 0, .pointer none] 27) = W0 at *
  refine (equal_any s.A s.n s.cap W0 hn (hcmd.below hb0 hlt)).mono ?_
  rintro e w1 ⟨rfl, q, rfl⟩
  have g4 := hkg.cell 4
  have s3 := hks.cell 3
  have g5 := hkg.cell 5
  have g6 := hkg.cell 6
  have g7 := hkg.cell 7
  have s4 := hks.cell 4
  have b0 := hkb.cell 0
  have b1 := hkb.cell 1
  have b2 := hkb.cell 2
  simp at g4 s3 g5 g6 g7 s4 b0 b1 b2
  have hlg := hkg.lt
  have hls := hks.lt
  have hlb := hkb.lt
  have hbn : (s.A.isNone != s.A.isNone) = false := by simp
  have hS : ∀ w', Below W0.heap.size W0 w' → (w'.cell? ⟨w.heap.size, 5, none⟩ = some (.int .u64 (tNs s.cr)) ∧ w'.cell? ⟨w.heap.size, 6, none⟩ = some (.int .i64 (tSec s.cr)) ∧ w'.cell? ⟨w.heap.size, 7, none⟩ = some (.pointer none) ∧ w'.cell? ⟨w.heap.size + 1, 4, none⟩ = some (.int .i64 s.cr) ∧ w'.cell? ⟨w.heap.size + 1 + 1, 0, none⟩ = some (.int .u64 0) ∧ w'.cell? ⟨w.heap.size + 1 + 1, 1, none⟩ = some (.int .i64 0) ∧ w'.cell? ⟨w.heap.size + 1 + 1, 2, none⟩ = some (.pointer none)) ∧ Below W0.heap.size W0 w' := fun w' hb' =>
    ⟨⟨(hb'.cell (p := ⟨w.heap.size, 5, none⟩) hlg).trans g5, (hb'.cell (p := ⟨w.heap.size, 6, none⟩) hlg).trans g6, (hb'.cell (p := ⟨w.heap.size, 7, none⟩) hlg).trans g7, (hb'.cell (p := ⟨w.heap.size + 1, 4, none⟩) hls).trans s4, (hb'.cell (p := ⟨w.heap.size + 1 + 1, 0, none⟩) hlb).trans b0, (hb'.cell (p := ⟨w.heap.size + 1 + 1, 1, none⟩) hlb).trans b1, (hb'.cell (p := ⟨w.heap.size + 1 + 1, 2, none⟩) hlb).trans b2⟩, hb'⟩
  go_wp2_with fail
  go_region_held3 (fun w' => (w'.cell? ⟨w.heap.size, 5, none⟩ = some (.int .u64 (tNs s.cr)) ∧ w'.cell? ⟨w.heap.size, 6, none⟩ = some (.int .i64 (tSec s.cr)) ∧ w'.cell? ⟨w.heap.size, 7, none⟩ = some (.pointer none) ∧ w'.cell? ⟨w.heap.size + 1, 4, none⟩ = some (.int .i64 s.cr) ∧ w'.cell? ⟨w.heap.size + 1 + 1, 0, none⟩ = some (.int .u64 0) ∧ w'.cell? ⟨w.heap.size + 1 + 1, 1, none⟩ = some (.int .i64 0) ∧ w'.cell? ⟨w.heap.size + 1 + 1, 2, none⟩ = some (.pointer none)) ∧ Below W0.heap.size W0 w') (first | exact hS _ (below_drewN' W0 q).drew | exact hS _ hbw3 | exact hS _ hbw2 | fail)
    (first | (go_at_call 6; refine (add_zero s.cr _ cr0 cr1).mono ?_; rintro e w2 ⟨rfl, hb2⟩; have hbw2 : Below W0.heap.size W0 w2 := (below_drewN' W0 (q + 1)).trans hb2) | (go_at_call 27; refine (equal_same (tNs s.cr) (tSec s.cr) (tNs_bd _).1 (tNs_bd _).2 _).mono ?_; rintro e w3 ⟨rfl, hb3⟩; have hbw3 : Below W0.heap.size W0 w3 := hbw2.trans (hb3.mono hbw2.size)))
  rename_i hHeld
  clear hHeld
  have kg := below_blk hbw3 hkg hlg
  have g8 := kg.cell 8
  have g9 := kg.cell 9
  have g10 := kg.cell 10
  have g11 := hkg.cell 11
  have g12 := hkg.cell 12
  have g13 := hkg.cell 13
  have s5 := hks.cell 5
  simp at g8 g9 g10 g11 g12 g13 s5
  go_wp2_with fail
  refine (isZero_zero _).mono ?_
  rintro e w4 ⟨rfl, hb4⟩
  have hbw4 : Below W0.heap.size W0 w4 := hbw3.trans (hb4.mono hbw3.size)
  have hS' : ∀ w', Below W0.heap.size W0 w' → (w'.cell? ⟨w.heap.size, 11, none⟩ = some (.int .u64 (tNs s.nx)) ∧ w'.cell? ⟨w.heap.size, 12, none⟩ = some (.int .i64 (tSec s.nx)) ∧ w'.cell? ⟨w.heap.size, 13, none⟩ = some (.pointer none) ∧ w'.cell? ⟨w.heap.size + 1, 5, none⟩ = some (.int .i64 s.nx) ∧ w'.cell? ⟨w.heap.size + 1 + 1, 0, none⟩ = some (.int .u64 0) ∧ w'.cell? ⟨w.heap.size + 1 + 1, 1, none⟩ = some (.int .i64 0) ∧ w'.cell? ⟨w.heap.size + 1 + 1, 2, none⟩ = some (.pointer none)) ∧ Below W0.heap.size W0 w' := fun w' hb' =>
    ⟨⟨(hb'.cell (p := ⟨w.heap.size, 11, none⟩) hlg).trans g11, (hb'.cell (p := ⟨w.heap.size, 12, none⟩) hlg).trans g12, (hb'.cell (p := ⟨w.heap.size, 13, none⟩) hlg).trans g13, (hb'.cell (p := ⟨w.heap.size + 1, 5, none⟩) hls).trans s5, (hb'.cell (p := ⟨w.heap.size + 1 + 1, 0, none⟩) hlb).trans b0, (hb'.cell (p := ⟨w.heap.size + 1 + 1, 1, none⟩) hlb).trans b1, (hb'.cell (p := ⟨w.heap.size + 1 + 1, 2, none⟩) hlb).trans b2⟩, hb'⟩
  clear hS hbw2 hbw3 hb2 hb3 hb4 g8 g9 g10 kg
  go_wp2_with fail
  go_region_held3 (fun w' => (w'.cell? ⟨w.heap.size, 11, none⟩ = some (.int .u64 (tNs s.nx)) ∧ w'.cell? ⟨w.heap.size, 12, none⟩ = some (.int .i64 (tSec s.nx)) ∧ w'.cell? ⟨w.heap.size, 13, none⟩ = some (.pointer none) ∧ w'.cell? ⟨w.heap.size + 1, 5, none⟩ = some (.int .i64 s.nx) ∧ w'.cell? ⟨w.heap.size + 1 + 1, 0, none⟩ = some (.int .u64 0) ∧ w'.cell? ⟨w.heap.size + 1 + 1, 1, none⟩ = some (.int .i64 0) ∧ w'.cell? ⟨w.heap.size + 1 + 1, 2, none⟩ = some (.pointer none)) ∧ Below W0.heap.size W0 w') (first | exact hS' _ hbw4.drew | exact hS' _ hbw3 | exact hS' _ hbw2 | fail)
    (first | (go_at_call 6; refine (add_zero s.nx _ nx0 nx1).mono ?_; rintro e w5 ⟨rfl, hb2⟩; have hbw2 : Below W0.heap.size W0 w5 := hbw4.drew.trans (hb2.mono hbw4.size)) | (go_at_call 27; refine (equal_same (tNs s.nx) (tSec s.nx) (tNs_bd _).1 (tNs_bd _).2 _).mono ?_; rintro e w6 ⟨rfl, hb3⟩; have hbw3 : Below W0.heap.size W0 w6 := hbw2.trans (hb3.mono hbw2.size)))
  rename_i hHeld
  clear hHeld
  go_wp2_with fail
  go_ret
  exact ⟨rfl, hb0.trans (hbw3.mono hb0.size)⟩
end Go.Proofs.YbulkcfnoFmt
