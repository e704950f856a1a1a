/-
  lookupIn (11) and lookupDefs (7) at an unresolved object that holds the definitions under "k".
-/
import Derived.Test.YbulkcfocFmtLaw
namespace Go.Proofs.YbulkcfocFmt
open Go Go.RowKit Go.Maps

def sk : ByteArray := ⟨#[107]⟩
theorem sk_size : sk.size ≤ maxLen := by decide
theorem zero38 (w : World) : (zeroValue 38).run Ybaf.prog w = .ok (.slice none 0 0) w := by kernel_rfl

theorem StrIs.drew {w : World} {B : Nat} {A : Option Addr} {n : Nat} {K : Nat → ByteArray} (h : StrIs w B A n K) : StrIs w.drew B A n K := h
theorem Ready.drew {w : World} {A : Option Addr} {n : Nat} {D : Nat → Df} (h : Ready w A n D) : Ready w.drew A n D := h.below (Below.refl _ _).drew

set_option maxRecDepth 100000 in
set_option maxHeartbeats 1000000 in
theorem lookupIn_any (rb ob M m : Nat) (f : ByteArray → Value) (hh : ByteArray → Bool) (A : Option Addr) (n cap : Nat) (D : Nat → Df) (B : Nat) (g pn pc : Nat) (Pt : Nat → ByteArray) (hz : Int) (w : World) (h : Ready w A n D) (hn : n ≤ 256)
    (ho : w.cell? ⟨ob, 2, none⟩ = some (.map (some M))) (hm : MapIs Ybaf.prog 9 (.slice none 0 0) w M m f hh) (hf : f sk = .slice A n cap) (hg : w.cell? ⟨g, 0, none⟩ = some (.string sk))
    (hp : StrIs w B (some ⟨g, 1, none⟩) pn Pt) (hp0 : 0 < pn) (hpc : pn + 1 ≤ pc) (hpm : pn + 1 ≤ maxLen) (R : Res) (hR : Hid (R = model D hz pn (Pt 0) (Pt 1) n)) :
    Calls Ybaf.prog 11 #[.pointer (some ⟨rb, 0, none⟩), .pointer (some ⟨ob, 0, none⟩), .slice (some ⟨g, 0, none⟩) (pn + 1) pc, .int .i64 hz] w fun e w' => Below w.heap.size w w' ∧ ∃ x, e = .returned (.tuple #[x, .int .i64 R.code, .nilIface]) ∧ Holds w' R x := by
  have hmd : MapIs Ybaf.prog 9 (.slice none 0 0) w.drew M m f hh := hm
  have hl := hmd.look Ybaf.underlying9 Ybaf.underlying46 (zero38 w.drew) sk_size
  rw [hf] at hl
  have hcall := lookupDefs_lits rb A n cap D B g 1 pn (pc - 1) Pt hz w.drew h.drew hn hp.drew hp0 (by omega) (by omega) R hR
  have hS : w.drew.cell? ⟨ob, 2, none⟩ = some (.map (some M)) ∧ w.drew.cell? ⟨g, 0, none⟩ = some (.string sk) ∧ (Instr.lookup 46 (.map (some M)) (.string sk) false).run Ybaf.prog w.drew = .ok (.slice A n cap) w.drew := ⟨ho, hg, hl⟩
  have hd : Below w.heap.size w w.drew := (Below.refl _ _).drew
  unfold maxLen at hpm
  have q1 : (1 : Int) ≤ ((pn + 1 : Nat) : Int) := by omega
  have q2 : ((pn + 1 : Nat) : Int) ≤ (pc : Int) := by omega
  have q3 : ¬ pc = 1 := by omega
  have q4 : (pc == 1) = false := by simpa using q3
  have q5 : ((pn : Int) + 1) ≤ (pc : Int) := by omega
  have q6 : (1 : Int) ≤ (pn : Int) + 1 := by omega
  have q7 : (1 : Int) ≤ (pc : Int) := by omega
  clear hf hR hm hmd h hp
  go_enter Ybaf.func11, Ybaf.ntmps11
  go_wp2_with fail
  go_region_held3 (fun w' => w'.cell? ⟨ob, 2, none⟩ = some (.map (some M)) ∧ w'.cell? ⟨g, 0, none⟩ = some (.string sk) ∧ (Instr.lookup 46 (.map (some M)) (.string sk) false).run Ybaf.prog w' = .ok (.slice A n cap) w')
    (first | exact hS | fail)
    (first | (go_at_call 7; refine hcall.mono ?_; rintro e w2 ⟨hw2, x, rfl, hx⟩; obtain rfl := hw2.symm) | fail)
  all_goals go_wp2_with fail
  all_goals go_ret3
  all_goals exact ⟨hd, x, rfl, hx⟩

set_option maxRecDepth 100000 in
set_option maxHeartbeats 1000000 in
/-- The object's own rank is not below the horizon. -/
theorem obj_min (rb ro db : Nat) (v pa : Value) (w : World) (h0 : w.cell? ⟨ro, 0, none⟩ = some (.pointer (some ⟨db, 0, none⟩))) (h1 : w.cell? ⟨db, 0, none⟩ = some (.int .i64 (-9223372036854775808))) (_h2 : w.cell? ⟨db, 1, none⟩ = some v) :
    Calls Ybaf.prog 7 #[.pointer (some ⟨rb, 0, none⟩), .slice (some ⟨ro, 0, none⟩) 1 1, pa, .int .i64 (-9223372036854775808)] w fun e w' => e = .returned (.tuple #[.nilIface, .int .i64 0, .nilIface]) ∧ w' = w := by
  go_enter Ybaf.func7, Ybaf.ntmps7
  go_wp2_with fail
  go_loopw [11] (fun i wr => ∃ m : Nat, m ≤ 1 ∧ i = .int .i64 ((m : Int) - 1) ∧ wr = w) (fun i _ => (intOf i + 1).toNat)
  case atStart => exact ⟨1, Nat.le_refl _, rfl, rfl⟩
  case round =>
    obtain ⟨m, hm, rfl, hwr⟩ := hrel
    have hwr' := hwr.symm
    subst hwr'
    clear hwr
    cases m with
    | zero =>
      go_wp2_with fail
      go_ret3
      exact ⟨rfl, rfl⟩
    | succ m =>
      obtain rfl : m = 0 := by omega
      go_wp2_with fail
      exact ⟨⟨0, by omega, rfl, trivial⟩, by simp [intOf]⟩

set_option maxRecDepth 100000 in
set_option maxHeartbeats 1000000 in
theorem obj_any (rb ro db ob : Nat) (pa : Value) (hz : Int) (R : Res) (w : World) (h0 : w.cell? ⟨ro, 0, none⟩ = some (.pointer (some ⟨db, 0, none⟩))) (h1 : w.cell? ⟨db, 0, none⟩ = some (.int .i64 (-9223372036854775808))) (h2 : w.cell? ⟨db, 1, none⟩ = some (.iface 45 (.pointer (some ⟨ob, 0, none⟩))))
    (hlt : -9223372036854775808 < hz)
    (hin : Calls Ybaf.prog 11 #[.pointer (some ⟨rb, 0, none⟩), .pointer (some ⟨ob, 0, none⟩), pa, .int .i64 hz] w fun e w' => Below w.heap.size w w' ∧ ∃ x, e = .returned (.tuple #[x, .int .i64 R.code, .nilIface]) ∧ Holds w' R x) :
    Calls Ybaf.prog 7 #[.pointer (some ⟨rb, 0, none⟩), .slice (some ⟨ro, 0, none⟩) 1 1, pa, .int .i64 hz] w fun e w' => Below w.heap.size w w' ∧ ∃ x, e = .returned (.tuple #[x, .int .i64 R.code, .nilIface]) ∧ Holds w' R x := by
  have a1 := as_node
  go_enter Ybaf.func7, Ybaf.ntmps7
  go_wp2_with fail
  go_loopw [11] (fun i wr => (i = .int .i64 0 ∧ wr = w) ∨ (i = .int .i64 (-1) ∧ Below w.heap.size w wr ∧ R = .absent)) (fun i _ => (intOf i + 1).toNat)
  case atStart => exact .inl ⟨rfl, rfl⟩
  case round =>
    rcases hrel with ⟨rfl, hwr⟩ | ⟨rfl, hb, rfl⟩
    · have hwr' := hwr.symm
      subst hwr'
      clear hwr
      go_wp2_with fail
      refine hin.mono ?_
      rintro e w2 ⟨hb2, x, rfl, hx⟩
      clear hin
      cases hx with
      | absent =>
        simp only [Res.code]
        go_wp2_with fail
        exact ⟨.inr ⟨rfl, hb2, trivial⟩, by simp [intOf]⟩
      | hidden =>
        simp only [Res.code]
        go_wp2_with fail
        go_ret3
        exact ⟨hb2, _, rfl, .hidden⟩
      | str s =>
        simp only [Res.code]
        go_wp2_with fail
        go_ret3
        exact ⟨hb2, _, rfl, .str s⟩
      | obj s c hl =>
        simp only [Res.code]
        go_wp2_with fail
        go_ret3
        exact ⟨hb2, _, rfl, .obj s c hl⟩
    · clear hin
      go_wp2_with fail
      go_ret3
      exact ⟨hb, _, rfl, .absent⟩
end Go.Proofs.YbulkcfocFmt
