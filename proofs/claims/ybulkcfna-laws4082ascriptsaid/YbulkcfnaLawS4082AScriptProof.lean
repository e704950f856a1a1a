/-
  The proof of 'Rows.LawS4082AScriptSaid': the row's step, after the kit's skeleton; the walk: YbulkcfnaScriptWalk.
-/
import Derived.Test.YbulkcfnaRows
import Derived.Test.YbulkcfnaScriptWalk
import Derived.WalkKit
import Derived.ProofKit
import Derived.OpenShut
import Derived.ShutString
import Derived.ChangeOld
import Derived.Below
import Derived.Deep.Slices
namespace Go.Proofs.Ybulkcfna.lawS4082AScript
open Go.ChangeShapes Go.WideShapes Go.ChangeAt Go.RowKit
set_option linter.unusedVariables false

theorem own : ownKnob Yba.prog.godebug = none := by kernel_rfl
theorem laidOut : laidOutB Yba.prog = true := by kernel_rfl
theorem cells36 : Yba.prog.cellsOf 36 = 3 := by kernel_rfl
theorem cells5 : Yba.prog.cellsOf 5 = 1 := by kernel_rfl

/-- The script, opened: each step's three bytes. -/
theorem open_ops {H : Type} {enc : TypeId × Value → H} {W : World} {spare : Nat → Bool} {held : Bool} {fuel : Nat} {a : Option Addr} {len cap : Nat} {x : DataW H × List MemPlace}
    (h : DataW.trod enc Yba.prog W 0 spare held fuel 22 [.slice a len cap] = some x) :
    ∃ F : Nat → Nat → Int, ∀ i, i < len → ∃ b o, a = some ⟨b, o, none⟩ ∧ b < W.heap.size ∧ ∀ j, j < 3 → W.cell? ⟨b, o + i * 3 + j, none⟩ = some (.int .u8 (F i j)) ∧ 0 ≤ F i j ∧ F i j ≤ 255 := by
  rcases Deep.open_slice Yba.underlying22 h with ⟨hcs, _⟩ | ⟨a', len', cap', m, n, D, Pl, hcs, _, hl, _, hm, _, hx⟩
  · simp at hcs
    obtain ⟨rfl, rfl, rfl⟩ := hcs
    exact ⟨fun _ _ => 0, fun i hi => absurd hi (by omega)⟩
  · simp at hcs
    obtain ⟨rfl, rfl, rfl⟩ := hcs
    have hlm : len ≤ m := by rw [hm]; split <;> omega
    have key : ∀ i, i < len → ∃ f : Nat → Int, ∃ b o, a' = ⟨b, o, none⟩ ∧ b < W.heap.size ∧ ∀ j, j < 3 → W.cell? ⟨b, o + i * 3 + j, none⟩ = some (.int .u8 (f j)) ∧ 0 ≤ f j ∧ f j ≤ 255 := by
      intro i hi
      obtain ⟨cs', h1, h2⟩ := hx i (by omega)
      rw [cells36] at h1
      obtain ⟨_, hlen, hc⟩ := World.cells?_some h1
      obtain ⟨xs, n', _, _, _, hxl, hf⟩ := DataW.trod_struct Yba.underlying36 h2
      match cs', hlen with
      | [v0, v1, v2], _ =>
        have f0 := hf 0 _ rfl
        have f1 := hf 1 _ rfl
        have f2 := hf 2 _ rfl
        simp [cells5] at f0 f1 f2
        match xs, hxl with
        | [x0, x1, x2], _ =>
          simp at f0 f1 f2
          obtain ⟨n0, e0, _, w0⟩ := DataW.trod_int Yba.underlying5 f0
          obtain ⟨n1, e1, _, w1⟩ := DataW.trod_int Yba.underlying5 f1
          obtain ⟨n2, e2, _, w2⟩ := DataW.trod_int Yba.underlying5 f2
          simp at e0 e1 e2
          subst e0 e1 e2
          have c0 := hc 0 (by omega)
          have c1 := hc 1 (by omega)
          have c2 := hc 2 (by omega)
          rw [Deep.add_add] at c0 c1 c2
          simp at c0 c1 c2
          obtain ⟨b, o, spot⟩ := a'
          have hspot : spot = none := by
            -- the first step's first cell is there, so the address is plain
            obtain ⟨cs0, g1, _⟩ := hx 0 (by omega)
            rw [cells36] at g1
            obtain ⟨_, hlen0, hc0⟩ := World.cells?_some g1
            have := hc0 0 (by omega)
            rw [Deep.add_add] at this
            match cs0, hlen0 with
            | [u0, u1, u2], _ =>
              simp [Addr.add] at this
              simpa using World.cell?_spot this
          subst hspot
          rw [add_plain] at c0 c1 c2
          have hlt : b < W.heap.size := by
            by_cases hb : b < W.heap.size
            · exact hb
            · exfalso
              unfold World.cell? at c0
              rw [Array.getElem?_eq_none (by simpa using Nat.le_of_not_lt hb)] at c0
              simp at c0
          refine ⟨fun j => if j = 0 then n0 else if j = 1 then n1 else n2, b, o, rfl, hlt, fun j hj => ?_⟩
          match j, hj with
          | 0, _ => exact ⟨by simpa using c0, bounds_u8 w0⟩
          | 1, _ => exact ⟨by simpa [Nat.add_assoc] using c1, bounds_u8 w1⟩
          | 2, _ => exact ⟨by simpa [Nat.add_assoc] using c2, bounds_u8 w2⟩
    obtain ⟨F, hF⟩ := Deep.choose_lt key
    refine ⟨F, fun i hi => ?_⟩
    obtain ⟨b, o, rfl, hb, hc⟩ := hF i hi
    exact ⟨b, o, rfl, hb, hc⟩

/-- A script of more than 1024 steps: true at once. -/
theorem walk_long (init : Int) (a : Option Addr) (len cap : Nat) (w : World) (hl : 1024 < len) (hm : len ≤ maxLen) :
    Calls Yba.prog 3 #[.int .u8 init, .slice a len cap] w fun e w' => e = .returned (.bool true) ∧ Below w.heap.size w w' := by
  unfold maxLen at hm
  go_enter Yba.func3, Yba.ntmps3
  go_wp2_with fail
  go_ret
  exact ⟨rfl, Below.refl _ _⟩

set_option maxRecDepth 100000 in
theorem lifted (os : Os) (started : os.Started) (H : Type) (enc : TypeId × Value → H) :
    ReturnsInHanded {} Yba.checked os 3 .any (Rows.lawS4082AScriptSpec.pre6 enc Yba.prog Yba.f3 Rows.lawS4082AScriptRow.domain false) (Rows.lawS4082AScriptSpec.post enc Yba.prog Yba.f3 false true false false) := by
  refine returnsInHanded_of_change (C := Yba.checked) own started (by kernel_rfl) Yba.func3
    (ChangeSpec.witness6 (enc := enc) (C := Yba.checked) false ⟨#[], #[.int .u8 0, .slice none 0 0], []⟩ 8 (by kernel_rfl) (by kernel_rfl) (by kernel_rfl) (by kernel_rfl)) ?_
  intro W base args ds gs before hval0 hW hcnd _
  have hval : ∀ (j : Nat) t v, Yba.f3.params[j]? = some t → args[j]? = some v → Value.okWide Yba.prog W .any base t v := hval0
  have hW' := hW
  obtain ⟨p, q, hA0, hV, rfl, hfz, hnd⟩ := hW
  have hA : DataW.TrodAll enc Yba.prog W 0 (fun _ => true) true Yba.f3.params.toList args.toList ds p := hA0
  rw [Yba.params3] at hA hval
  obtain ⟨v0, vs0, d0, ds0, p0, q0, hargs, rfl, rfl, h0, r0⟩ := trodAll_cons hA
  obtain ⟨v1, vs1, d1, ds1, p1, q1, rfl, rfl, rfl, h1, r1⟩ := trodAll_cons r0
  obtain ⟨rfl, rfl, rfl⟩ := trodAll_nil r1
  obtain rfl : args = #[v0, v1] := by cases args; simp_all
  obtain ⟨rfl, rfl⟩ := trodVars_none hV
  obtain ⟨a0, rfl, rfl, rfl, w0⟩ := open_int Yba.underlying5 (hval 0 5 v0 rfl rfl) h0
  obtain ⟨a1, len1, cap1, rfl⟩ := okWide_slice Yba.underlying22 (hval 1 22 v1 rfl rfl)
  have k1 := h1
  have lt1 : ∀ x ∈ p1, x.block < W.heap.size := by obtain ⟨m, hm⟩ := k1; exact DataW.trod_lt m _ _ _ hm
  obtain ⟨F, hF⟩ : ∃ F : Nat → Nat → Int, ∀ i, i < len1 → ∃ b o, a1 = some ⟨b, o, none⟩ ∧ b < W.heap.size ∧ ∀ j, j < 3 → W.cell? ⟨b, o + i * 3 + j, none⟩ = some (.int .u8 (F i j)) ∧ 0 ≤ F i j ∧ F i j ≤ 255 := by
    obtain ⟨fuel, hf⟩ := h1
    exact open_ops (by simpa [Value.cells] using hf)
  have hlm : len1 ≤ maxLen := by
    obtain ⟨fuel, hf⟩ := h1
    rcases Deep.open_slice Yba.underlying22 hf with ⟨hcs, _⟩ | ⟨a', len', cap', m, n, D, Pl, hcs, _, hl, hmx, _, _, _⟩
    · simp [Value.cells] at hcs
      obtain ⟨rfl, rfl, rfl⟩ := hcs
      exact Nat.zero_le _
    · simp [Value.cells] at hcs
      obtain ⟨rfl, rfl, rfl⟩ := hcs
      omega
  have b0 := bounds_u8 w0
  clear hA0 hval0
  have hwalk : Calls Yba.prog 3 #[.int .u8 a0, .slice a1 len1 cap1] W fun e w' => e = .returned (.bool true) ∧ Below W.heap.size W w' := by
    by_cases hl : len1 ≤ 1024
    · exact walk a0 a1 len1 cap1 F W b0.1 b0.2 hl hF
    · exact walk_long a0 a1 len1 cap1 W (by omega) hlm
  refine hwalk.mono fun e W' ⟨he, bel⟩ => ?_
  subst he
  exact ⟨_, rfl, _, _, _, [], _, [], hW', trodAll_mk1 (shut_bool Yba.underlying4 _), (trodAll_cons_mk (shut_int Yba.underlying5 w0) (trodAll_cons_mk (Below.trod laidOut (by kernel_rfl) (of_decide_eq_true (by kernel_rfl)) k1 bel lt1) trodAll_mk0)), rfl, bel.frame _, fun h => by cases h⟩

theorem over : Rows.lawS4082AScriptRow.holds Yba.pinned (OpenSpec.ofChange Rows.lawS4082AScriptSpec) :=
  OpenClaim.holds_of_wide 3 Yba.f3 rfl rfl rfl rfl rfl rfl rfl ⟨rfl, rfl, rfl, rfl, rfl⟩ rfl rfl rfl rfl rfl (by kernel_rfl) Yba.func3 (by kernel_rfl)
    (of_decide_eq_true (by kernel_rfl)) (by unfold Func.isWrapper; first | (rw [if_pos (by decide +kernel)]; kernel_rfl) | (rw [if_neg (by decide +kernel)]; exact ⟨rfl, rfl⟩))
    (fun os started H enc _ => lifted os started H enc)

theorem proved : Rows.LawS4082AScriptSaid := over
#print axioms proved
end Go.Proofs.Ybulkcfna.lawS4082AScript
