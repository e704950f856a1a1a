/-
  LawS4084AModel (3).
-/
import Derived.Test.YbulkcfocFmtModel
namespace Go.Proofs.YbulkcfocFmt
open Go Go.RowKit Go.Maps

set_option maxRecDepth 100000 in
set_option maxHeartbeats 1000000 in
theorem law_model (A PA : Option Addr) (n cap pn pc : Nat) (D : Nat → Df) (Pt : Nat → ByteArray) (hz : Int) (w : World) (h : Dfs w w.heap.size A n D) (hn : n ≤ maxLen)
    (hp : StrIs w w.heap.size PA pn Pt) (hpc : pn ≤ pc) (hpm : pn ≤ maxLen) :
    Calls Ybaf.prog 3 #[.slice A n cap, .slice PA pn pc, .int .i64 hz] w fun e w' => e = .returned (.bool true) ∧ Below w.heap.size w w' := by
  have hsize := size_any A n cap _ D w h hn
  unfold maxLen at hn hpm
  go_enter Ybaf.func3, Ybaf.ntmps3
  go_wp2_with fail
  refine hsize.mono ?_
  rintro e w1 ⟨hw, ⟨rfl, hn2, hk2⟩ | rfl⟩
  case inr =>
    obtain rfl := hw.symm
    go_wp2_with fail
    go_ret
    exact ⟨rfl, Below.refl _ _⟩
  case inl =>
    obtain rfl := hw.symm
    clear hsize
    by_cases hpl : 256 < pn
    · have hd : decide ((256 : Int) < (pn : Int)) = true := decide_eq_true (by omega)
      go_wp2_with fail
      go_ret
      exact ⟨rfl, Below.refl _ _⟩
    have hd : decide ((256 : Int) < (pn : Int)) = false := decide_eq_false (by omega)
    by_cases hp0 : pn = 0
    · subst hp0
      go_wp2_with fail
      go_ret
      exact ⟨rfl, Below.refl _ _⟩
    have hp0' : 0 < pn := by omega
    have hd0 : ((pn : Int) == 0) = false := by simp; omega
    obtain ⟨⟨b, o, rfl, hbl, _⟩, _⟩ := hp 0 hp0'
    go_wp2_with fail
    refine (newResolver_any w).mono ?_
    rintro e w2 ⟨⟨rb, rfl⟩, hb2⟩
    go_wp2_with fail
    refine (defs_any A n cap w.heap.size D w2 (h.below hb2 (Nat.le_refl _)) hb2.size hn2 hk2).mono ?_
    rintro e w3 ⟨sl, xs, rfl, hL⟩
    obtain ⟨A', cap', rfl, _, _⟩ := owns_view hL.own
    have hb3 : Below w.heap.size w w3 := hb2.trans (hL.below.mono hb2.size)
    have hrd := hL.ready
    have hp3 := hp.below hb3 (Nat.le_refl _)
    obtain ⟨R, hR⟩ : ∃ R, R = model D hz pn (Pt 0) (Pt 1) n := ⟨_, rfl⟩
    have HR : Hid (R = model D hz pn (Pt 0) (Pt 1) n) := hR
    clear hR
    go_wp2_with fail
    refine (lookupDefs_lits rb A' n cap' D w.heap.size b o pn pc Pt hz w3 hrd hn2 hp3 hp0' hpc (by unfold maxLen; omega) R HR).mono ?_
    rintro e w4 ⟨hw4, x, rfl, hx⟩
    obtain rfl := hw4.symm
    clear hrd hL
    go_wp2_with fail
    refine (model_any A n cap D w.heap.size b o pn pc Pt hz w3 (h.below hb3 (Nat.le_refl _)) hb3.size hn2 hk2 hp3 hp0' (by unfold maxLen; omega) R HR).mono ?_
    rintro e w5 ⟨rfl, hb5⟩
    have hx5 := hx.msame (MSame.below hb5)
    have hfin : Below w.heap.size w w5 := hb3.trans (hb5.mono hb3.size)
    clear hx h hp hp3
    go_wp2_with fail
    refine (check_any R x w5 hx5).mono ?_
    rintro e w6 ⟨rfl, hw6⟩
    obtain rfl := hw6.symm
    go_wp2_with fail
    go_ret
    exact ⟨rfl, hfin⟩
end Go.Proofs.YbulkcfocFmt
