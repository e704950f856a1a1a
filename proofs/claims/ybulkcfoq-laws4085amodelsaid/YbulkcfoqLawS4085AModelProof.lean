/-
  THE SHELL OF A PROOF OF 'Rows.LawS4085AModelSaid' ('example.com/chunk-tangle/chunk-tangle/pkg/source.LawS4085AModel'), WRITTEN BY PROGRAM (proof-skeleton.mjs, third state) off the guide's own print for that function. Not trusted: Lean checks it.
  The walk is mine. ALL ELSE IS THE GUIDE's OWN WAY (howto/template/XProofs.lean; Derived/Test/ChunkProofs.lean for 'Below') at this function's number and types: leave it.
-/
import Derived.Test.YbulkcfoqTrim
import Derived.WalkKit
import Derived.ProofKit
import Derived.OpenShut
import Derived.ShutString
import Derived.ChangeOld
import Derived.Below
namespace Go.Proofs.Ybulkcfoq.lawS4085AModel
open Go.ChangeShapes Go.WideShapes Go.ChangeAt Go.RowKit
open Go.ChangeMaps (open_string shut_string)
set_option linter.unusedVariables false

theorem own : ownKnob Yba.prog.godebug = none := by kernel_rfl
theorem laidOut : laidOutB Yba.prog = true := by kernel_rfl

/-- WHAT THE WALK IS TOLD OF A SLICE OF INTEGERS THAT CAME IN: it is nil; or it leads to a row of 'cap' cells, the numbers 'zs' (the first 'len' are its elements, the rest its spare room), each fitting its kind. -/
def IsRow (k : IntKind) (w : World) (a : Option Addr) (len cap : Nat) (zs : List Int) : Prop :=
  (a = none ∧ len = 0 ∧ cap = 0 ∧ zs = []) ∨
  ∃ x, a = some x ∧ len ≤ cap ∧ cap ≤ maxLen ∧ zs.length = cap ∧ (∀ i, i < zs.length → w.cell? (x.add i) = some (.int k (zs.getD i 0))) ∧ ∀ n ∈ zs, (Lit.int k n).wf = true

/-! ### STEP 1: THE WALK -/
theorem byte_of_wf {x : Int} (h : (Lit.int .u8 x).wf = true) : 0 ≤ x ∧ x < 256 := by
  have h1 : IntKind.u8.min = 0 := rfl
  have h2 : IntKind.u8.max = 255 := rfl
  simp only [Lit.wf, Bool.and_eq_true, decide_eq_true_eq] at h
  omega

/-- bytes.Clone, nil or not: a slice of the same bytes. -/
theorem clone_any (p : Option Addr) (n c : Nat) (xs : List Int) (w : World) (hx : xs.length = n) (hbig : n ≤ 4096) (hp : p = none → n = 0) (h : Lib.BytesIn w p n xs) :
    Calls Yba.prog 4 #[.slice p n c] w fun e w' => ∃ p' c', e = .returned (.slice p' n c') ∧ Lib.BytesIn w' p' n xs ∧ Below w.heap.size w w' := by
  cases p with
  | none =>
    obtain rfl := hp rfl
    exact (Any.bytes_Clone_nil laysK4 0 c w).mono fun e w' ⟨he, hw⟩ => ⟨none, 0, he, Lib.BytesIn.nil _ _ _, hw ▸ Below.refl _ _⟩
  | some a =>
    refine (Any.bytes_Clone_at laysK4 a n c xs w hx (by omega) (fun i hi => ?_)).mono fun e w' ⟨v', he, hown, hnn, hb⟩ => ?_
    · obtain ⟨b, o, rfl2, hc⟩ := h.at (by omega)
      obtain rfl := Option.some.inj rfl2
      rw [add_plain]; exact hc i hi
    · subst he
      obtain ⟨hl, hv | ⟨g, cap, cur, hv, hg, hh, hn, hm, hs, ht⟩⟩ := hown
      · exact absurd hv.1 hnn
      · subst hv
        refine ⟨_, _, rfl, fun h0 => ⟨g, 0, rfl, fun i hi => ?_⟩, hb⟩
        have := World.ownsRow.cellAt (⟨hl, .inr ⟨g, cap, cur, rfl, hg, hh, hn, hm, hs, ht⟩⟩ : w'.ownsRow w.heap.size 5 1 (.slice (some ⟨g, 0, none⟩) n cap) n (xs.map (Value.int .u8))) i (by omega)
        rw [Nat.zero_add, this]
        simp [List.getD, List.getElem?_eq_getElem (show i < xs.length by omega)]

theorem lineEnd_le (xs : List Int) : lineEnd xs ≤ xs.length := by
  unfold lineEnd
  split
  · exact Nat.le_refl _
  · exact Nat.le_trans (cutAt_le _ _) (by rw [List.length_take]; omega)

set_option maxHeartbeats 4000000 in
theorem law_any (p : Option Addr) (n c : Nat) (xs : List Int) (w : World) (hx : xs.length = n) (hnc : n ≤ c) (hbig : n ≤ 4096) (hp : p = none → n = 0) (h : Lib.BytesIn w p n xs) (hb : ∀ x ∈ xs, 0 ≤ x ∧ x < 256) :
    Calls Yba.prog 3 #[.slice p n c] w fun e w' => e = .returned (.bool true) ∧ Below w.heap.size w w' := by
  have q22 : ∀ (w : World) (a : Option Addr) (n c : Nat), (binOp .eql 22 (.slice a n c) (.slice none 0 0)).run Yba.prog w = .ok (.bool a.isNone) w := fun w a n c => Lib.run_eql_slice_nil w _ _ a n c 0 0 Yba.underlying22
  have hk : lineEnd xs ≤ n := hx ▸ lineEnd_le xs
  have c4 := clone_any p n c xs w hx hbig hp h
  have c5 := fun W hW => end_any p n c xs W hx hbig (BytesIn_below (w' := W) h hW)
  have c6 := fun W (hW : Below w.heap.size w W) => trim_any p n c xs W hx hnc hbig (BytesIn_below h hW) hb
  have hlen : (xs.take (lineEnd xs)).length = lineEnd xs := by rw [List.length_take]; omega
  have c7 : ∀ W (hW : Below w.heap.size w W), Calls Yba.prog 7 #[.slice p (lineEnd xs) c, .slice p (lineEnd xs) c] W fun e w' => e = .returned (.bool true) ∧ w' = W := fun W hW => by
    have h2 := BytesIn_take (BytesIn_below h hW) hk
    have := Any.bytes_Equal_all lays115 p p (lineEnd xs) c (lineEnd xs) c _ _ W hlen hlen h2 h2
    rw [beq_self_eq_true] at this
    exact this
  have c7' : ∀ W (hW : Below w.heap.size w W) p' c', Lib.BytesIn W p' n xs → Calls Yba.prog 7 #[.slice p' n c', .slice p n c] W fun e w' => e = .returned (.bool true) ∧ w' = W := fun W hW p' c' h' => by
    have := Any.bytes_Equal_all lays115 p' p n c' n c _ _ W hx hx h' (BytesIn_below h hW)
    rw [beq_self_eq_true] at this
    exact this
  clear h hb hlen
  generalize lineEnd xs = k at hk c5 c6 c7
  go_enter Yba.func3, Yba.ntmps3
  go_wp2_with fail
  refine c4.mono ?_
  rintro e w1 ⟨p', c', rfl, hB1, b1⟩
  go_wp2_with fail
  refine (c5 _ b1).mono ?_
  rintro e w2 ⟨rfl, hw2⟩
  obtain rfl := hw2
  go_wp2_with fail
  refine (c6 _ b1).mono ?_
  rintro e w3 ⟨rfl, b3⟩
  have b13 : Below w.heap.size w w3 := b1.trans (b3.mono b1.size)
  have hB3 := BytesIn_below hB1 b3
  go_wp2_with fail
  refine (c7 _ b13).mono ?_
  rintro e w4 ⟨rfl, hw4⟩
  obtain rfl := hw4
  go_wp2_with fail
  refine (c7' _ b13 _ _ hB3).mono ?_
  rintro e w5 ⟨rfl, hw5⟩
  obtain rfl := hw5
  go_wp2
  go_ret
  exact ⟨rfl, b13⟩

theorem walk (a0 : Option Addr) (len0 cap0 : Nat) (z0 : List Int) (w : World) (w0 : IsRow .u8 w a0 len0 cap0 z0) :
    Calls Yba.prog 3 #[.slice a0 len0 cap0] w fun e w' => e = .returned (.bool true) ∧ Below w.heap.size w w' := by
  by_cases hbig : len0 ≤ 4096
  · rcases w0 with ⟨rfl, rfl, rfl, rfl⟩ | ⟨x, rfl, hl, hm, hz, hc, hwz⟩
    · exact law_any none 0 0 [] w rfl (Nat.le_refl _) (by omega) (fun _ => rfl) (Lib.BytesIn.nil _ _ _) (by simp)
    · refine law_any (some x) len0 cap0 (z0.take len0) w (by rw [List.length_take]; omega) hl hbig (fun h => by cases h) (BytesIn_take (Lib.BytesIn.of_cells (n := len0) fun i hi => hc i (by omega)) (Nat.le_refl _)) fun y hy => byte_of_wf (hwz y (List.mem_of_mem_take hy))
  · clear w0
    go_enter Yba.func3, Yba.ntmps3
    go_wp2
    go_ret
    exact ⟨rfl, Below.refl _ _⟩

/-! ### THE ROW's STEP: WRITTEN OUT: LEAVE IT -/
set_option maxRecDepth 100000 in
theorem lifted (os : Os) (started : os.Started) (H : Type) (enc : TypeId × Value → H) :
    ReturnsInHanded {} Yba.checked os 3 .any (Rows.lawS4085AModelSpec.pre6 enc Yba.prog Yba.f3 Rows.lawS4085AModelRow.domain false) (Rows.lawS4085AModelSpec.post enc Yba.prog Yba.f3 false true false false) := by
  refine returnsInHanded_of_change (C := Yba.checked) own started (by kernel_rfl) Yba.func3
    (ChangeSpec.witness6 (enc := enc) (C := Yba.checked) false ⟨#[], #[.slice none 0 0], []⟩ 8 (by kernel_rfl) (by kernel_rfl) (by kernel_rfl) (by kernel_rfl)) ?_
  intro W base args ds gs before hval0 hW hcnd _
  have hval : ∀ (j : Nat) t v, Yba.f3.params[j]? = some t → args[j]? = some v → Value.okWide Yba.prog W .any base t v := hval0
  have hW' := hW
  obtain ⟨p, q, hA0, hV, rfl, hfz, hnd⟩ := hW
  have hA : DataW.TrodAll enc Yba.prog W 0 (fun _ => true) true Yba.f3.params.toList args.toList ds p := hA0
  rw [Yba.params3] at hA hval
  obtain ⟨v0, vs0, d0, ds0, p0, q0, hargs, rfl, rfl, h0, r0⟩ := trodAll_cons hA
  obtain ⟨rfl, rfl, rfl⟩ := trodAll_nil r0
  obtain rfl : args = #[v0] := by cases args; simp_all
  obtain ⟨rfl, rfl⟩ := trodVars_none hV
  obtain ⟨a0, len0, cap0, rfl⟩ := okWide_slice Yba.underlying22 (hval 0 22 v0 rfl rfl)
  have k0 := h0
  have lt0 : ∀ x ∈ p0, x.block < W.heap.size := by obtain ⟨m, hm⟩ := k0; exact DataW.trod_lt m _ _ _ hm
  obtain ⟨z0, w0⟩ : ∃ zs, IsRow .u8 W a0 len0 cap0 zs := by
    obtain ⟨fuel, hf⟩ := h0
    rcases open_ints Yba.underlying22 Yba.underlying5 (by kernel_rfl) hf with ⟨hcs, _⟩ | ⟨x, l, c, zs, hcs, _, hl, hm, hz, _, hcell, hwz⟩
    · simp [Value.cells] at hcs
      obtain ⟨rfl, rfl, rfl⟩ := hcs
      exact ⟨[], .inl ⟨rfl, rfl, rfl, rfl⟩⟩
    · simp [Value.cells] at hcs
      obtain ⟨rfl, rfl, rfl⟩ := hcs
      exact ⟨zs, .inr ⟨_, rfl, hl, hm, by simpa using hz, hcell, hwz⟩⟩
  clear hA0 hval0
  refine (walk a0 len0 cap0 z0 W w0).mono fun e W' ⟨he, bel⟩ => ?_
  subst he
  exact ⟨_, rfl, _, _, _, [], _, [], hW', trodAll_mk1 (shut_bool Yba.underlying4 _), (trodAll_cons_mk (Below.trod laidOut (by kernel_rfl) (of_decide_eq_true (by kernel_rfl)) k0 bel lt0) trodAll_mk0), rfl, bel.frame _, fun h => by cases h⟩

theorem over : Rows.lawS4085AModelRow.holds Yba.pinned (OpenSpec.ofChange Rows.lawS4085AModelSpec) :=
  OpenClaim.holds_of_wide 3 Yba.f3 rfl rfl rfl rfl rfl rfl rfl ⟨rfl, rfl, rfl, rfl, rfl⟩ rfl rfl rfl rfl rfl (by kernel_rfl) Yba.func3 (by kernel_rfl)
    (of_decide_eq_true (by kernel_rfl)) (by unfold Func.isWrapper; first | (rw [if_pos (by decide +kernel)]; kernel_rfl) | (rw [if_neg (by decide +kernel)]; exact ⟨rfl, rfl⟩))
    (fun os started H enc _ => lifted os started H enc)

/-- ████ THE STATEMENT ████ -/
theorem proved : Rows.LawS4085AModelSaid := over
#print axioms proved
end Go.Proofs.Ybulkcfoq.lawS4085AModel
