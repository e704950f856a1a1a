/-
  lookupResolved (13) of what build makes; lookupDefs (7) over literals.
-/
import Derived.Test.YbulkcfocFmtDefs
namespace Go.Proofs.YbulkcfocFmt
open Go Go.RowKit Go.Maps

theorem look_any (d : Df) (mb : Nat) (B b o pn pc : Nat) (Pt : Nat → ByteArray) (w : World) (h : Built w d (.iface 67 (.map (some mb)))) (hp : StrIs w B (some ⟨b, o, none⟩) pn Pt) (hp0 : 0 < pn) (hpc : pn ≤ pc) (hpm : pn ≤ maxLen) :
    Calls Ybaf.prog 13 #[.map (some mb), .slice (some ⟨b, o, none⟩) pn pc] w fun e w' => w' = w ∧ ∃ x, e = .returned (.tuple #[x, .int .i64 (one d pn (Pt 0) (Pt 1)).code]) ∧ Holds w (one d pn (Pt 0) (Pt 1)) x := by
  obtain ⟨⟨b', o', e0, _, c0⟩, s0⟩ := hp 0 hp0
  injection e0 with e0
  injection e0 with e1 e2
  subst e1 e2
  simp only [Nat.add_zero] at c0
  cases h with
  | flat hk _ m =>
    obtain ⟨f, hh, m, hf⟩ := m
    cases hl : last d.K (Pt 0) d.kn with
    | none =>
      have hr : one d pn (Pt 0) (Pt 1) = .absent := by simp [one, hk, hl]
      rw [hr]
      refine (look_absent mb d.kn f hh b o pn pc (Pt 0) w m c0 s0 hp0 ((hf _).1 hl)).mono ?_
      rintro e w1 ⟨rfl, rfl⟩
      exact ⟨rfl, _, rfl, .absent⟩
    | some j =>
      obtain ⟨h1, h2⟩ := (hf _).2 j hl
      unfold G1 at h2
      by_cases hp1 : pn = 1
      · subst hp1
        have hr : one d 1 (Pt 0) (Pt 1) = .str (d.val j) := by simp [one, hk, hl]
        rw [hr]
        refine (look_one mb d.kn f hh b o pc (Pt 0) w m c0 s0 h1 76 _ h2 (by decide)).mono ?_
        rintro e w1 ⟨rfl, rfl⟩
        exact ⟨rfl, _, rfl, .str _⟩
      · have hr : one d pn (Pt 0) (Pt 1) = .hidden := by simp [one, hk, hl, hp1]
        rw [hr]
        refine (look_str mb d.kn f hh b o pn pc (Pt 0) w m c0 s0 h1 _ h2 (by omega)).mono ?_
        rintro e w1 ⟨rfl, rfl⟩
        exact ⟨rfl, _, rfl, .hidden⟩
  | nest hk _ m =>
    obtain ⟨f, hh, m, hf⟩ := m
    cases hl : last d.K (Pt 0) d.kn with
    | none =>
      have hr : one d pn (Pt 0) (Pt 1) = .absent := by simp [one, hk, hl]
      rw [hr]
      refine (look_absent mb d.kn f hh b o pn pc (Pt 0) w m c0 s0 hp0 ((hf _).1 hl)).mono ?_
      rintro e w1 ⟨rfl, rfl⟩
      exact ⟨rfl, _, rfl, .absent⟩
    | some j =>
      obtain ⟨h1, c, h2, hlf⟩ := (hf _).2 j hl
      by_cases hp1 : pn = 1
      · subst hp1
        have hr : one d 1 (Pt 0) (Pt 1) = .obj (d.val j) := by simp [one, hk, hl]
        rw [hr]
        refine (look_one mb d.kn f hh b o pc (Pt 0) w m c0 s0 h1 67 _ h2 (by decide)).mono ?_
        rintro e w1 ⟨rfl, rfl⟩
        exact ⟨rfl, _, rfl, .obj _ c hlf⟩
      · obtain ⟨⟨b', o', e0, _, c1⟩, s1⟩ := hp 1 (by omega)
        injection e0 with e0
        injection e0 with e1 e2
        subst e1 e2
        have mm := hlf.map
        by_cases hx : Pt 1 = sx
        · by_cases hp2 : pn = 2
          · subst hp2
            have hr : one d 2 (Pt 0) (Pt 1) = .str (d.val j) := by simp [one, hk, hl, hx]
            rw [hr]
            refine (look_deep mb d.kn f hh b o 2 pc (Pt 0) w m c0 s0 h1 c h2 (by omega) hpc hpm _ _ (look_one c 1 _ _ b (o + 1) (pc - 1) (Pt 1) w mm c1 s1 (by simp [hx]) 76 (.string (d.val j)) (by simp [hx]) (by decide))).mono ?_
            rintro e w1 ⟨rfl, rfl⟩
            exact ⟨rfl, _, rfl, .str _⟩
          · have hr : one d pn (Pt 0) (Pt 1) = .hidden := by simp [one, hk, hl, hx, hp1, hp2]
            rw [hr]
            refine (look_deep mb d.kn f hh b o pn pc (Pt 0) w m c0 s0 h1 c h2 (by omega) hpc hpm _ _ (look_str c 1 _ _ b (o + 1) (pn - 1) (pc - 1) (Pt 1) w mm c1 s1 (by simp [hx]) (.string (d.val j)) (by simp [hx]) (by omega))).mono ?_
            rintro e w1 ⟨rfl, rfl⟩
            exact ⟨rfl, _, rfl, .hidden⟩
        · have hr : one d pn (Pt 0) (Pt 1) = .absent := by simp [one, hk, hl, hx, hp1]
          rw [hr]
          refine (look_deep mb d.kn f hh b o pn pc (Pt 0) w m c0 s0 h1 c h2 (by omega) hpc hpm _ _ (look_absent c 1 _ _ b (o + 1) (pn - 1) (pc - 1) (Pt 1) w mm c1 s1 (by omega) (by simp [hx]))).mono ?_
          rintro e w1 ⟨rfl, rfl⟩
          exact ⟨rfl, _, rfl, .absent⟩

/-- The definitions as lookupDefs reads them. -/
def Ready (w : World) (A : Option Addr) (n : Nat) (D : Nat → Df) : Prop :=
  ∀ i, i < n → ∃ b o p q v, A = some ⟨b, o, none⟩ ∧ w.cell? ⟨b, o + i, none⟩ = some (.pointer (some ⟨p, 0, none⟩)) ∧ w.cell? ⟨p, 0, none⟩ = some (.int .i64 (D i).rank) ∧ w.cell? ⟨p, 1, none⟩ = some (.iface 71 (.pointer (some ⟨q, 0, none⟩))) ∧ w.cell? ⟨q, 2, none⟩ = some v ∧ Built w (D i) v

theorem Ready.below {w w' : World} {A : Option Addr} {n : Nat} {D : Nat → Df} (h : Ready w A n D) (hb : Below w.heap.size w w') : Ready w' A n D := fun i hi => by
  obtain ⟨b, o, p, q, v, hA, h1, h2, h3, h4, h5⟩ := h i hi
  have k1 := World.block_lt_of_cell? w _ h1
  have k2 := World.block_lt_of_cell? w _ h2
  have k3 := World.block_lt_of_cell? w _ h3
  have k4 := World.block_lt_of_cell? w _ h4
  exact ⟨b, o, p, q, v, hA, (hb.cell k1).trans h1, (hb.cell k2).trans h2, (hb.cell k3).trans h3, (hb.cell k4).trans h4, h5.msame (MSame.below hb)⟩

theorem Lits.ready {w0 w : World} {D : Nat → Df} {A : Option Addr} {cap k : Nat} {xs : List Value} (h : Lits w0 w D (.slice A k cap) k xs) : Ready w A k D := fun i hi => by
  obtain ⟨p, q, v, hx, hp, hq, hu⟩ := h.lit i hi
  rcases h.own.2 with ⟨e, hz⟩ | ⟨g, cap', cur, e, hb, hg, hn, hm, hs, hcur⟩
  · subst hz
    omega
  · injection e with e1 e2 e3
    subst e1
    have hc := (Blk.cell (w := w) (b := g) (t := 51) (cs := cur) hg i)
    have hc2 : cur[i]? = some (.pointer (some ⟨p, 0, none⟩)) := by
      rw [← hcur, List.getElem?_take] at hx
      split at hx
      · simpa using hx
      · cases hx
    exact ⟨g, 0, p, q, v, rfl, by rw [Nat.zero_add, hc, hc2], hp.cell 0, hp.cell 1, hq.cell 2, hu⟩

theorem model_skip {D : Nat → Df} {hz : Int} {pn : Nat} {p0 p1 : ByteArray} {m : Nat} (h : hz ≤ (D m).rank) : model D hz pn p0 p1 (m + 1) = model D hz pn p0 p1 m := by simp [model, h]
theorem model_take {D : Nat → Df} {hz : Int} {pn : Nat} {p0 p1 : ByteArray} {m : Nat} (h : ¬ hz ≤ (D m).rank) : model D hz pn p0 p1 (m + 1) = (one (D m) pn p0 p1).or (model D hz pn p0 p1 m) := by simp [model, h]

set_option maxRecDepth 100000 in
set_option maxHeartbeats 1000000 in
theorem lookupDefs_lits (rb : Nat) (A : Option Addr) (n cap : Nat) (D : Nat → Df) (B : Nat) (b o pn pc : Nat) (Pt : Nat → ByteArray) (hz : Int) (w : World) (h : Ready w A n D) (hn : n ≤ 256)
    (hp : StrIs w B (some ⟨b, o, none⟩) pn Pt) (hp0 : 0 < pn) (hpc : pn ≤ pc) (hpm : pn ≤ maxLen) (R : Res) (hR : Hid (R = model D hz pn (Pt 0) (Pt 1) n)) :
    Calls Ybaf.prog 7 #[.pointer (some ⟨rb, 0, none⟩), .slice A n cap, .slice (some ⟨b, o, none⟩) pn pc, .int .i64 hz] w fun e w' => w' = w ∧ ∃ x, e = .returned (.tuple #[x, .int .i64 R.code, .nilIface]) ∧ Holds w R x := by
  go_enter Ybaf.func7, Ybaf.ntmps7
  go_wp2_with fail
  go_loopw [11] (fun i wr => ∃ m : Nat, m ≤ n ∧ i = .int .i64 ((m : Int) - 1) ∧ wr = w ∧ Hid (R = model D hz pn (Pt 0) (Pt 1) m)) (fun i _ => (intOf i + 1).toNat)
  case atStart => exact ⟨n, Nat.le_refl _, rfl, rfl, hR⟩
  case round =>
    clear hR
    obtain ⟨m, hm, rfl, hwr, hmod⟩ := hrel
    have hwr' := hwr.symm
    subst hwr'
    clear hwr
    cases m with
    | zero =>
      obtain rfl : R = .absent := hmod.out
      clear hmod
      go_wp2_with fail
      go_ret3
      exact ⟨rfl, _, rfl, .absent⟩
    | succ m =>
      obtain ⟨b', o', p, q, v, rfl, c1, c2, c3, c4, hbt⟩ := h m (by omega)
      by_cases hrk : hz ≤ (D m).rank
      · have hr : Hid (R = model D hz pn (Pt 0) (Pt 1) m) := hmod.out.trans (model_skip hrk)
        clear hmod hbt h hp
        go_wp2_with fail
        exact ⟨⟨m, by omega, by go_num, trivial, hr⟩, by simp [intOf]⟩
      · have hone : Hid (R = (one (D m) pn (Pt 0) (Pt 1)).or (model D hz pn (Pt 0) (Pt 1) m)) := hmod.out.trans (model_take hrk)
        have hres := resolve_lit rb q v w c4
        have a1 := as_lit_no
        have a2 := as_str
        have a3 := as_obj
        clear hmod h
        have hcase : v = .iface 76 (.string ((D m).val 0)) ∧ one (D m) pn (Pt 0) (Pt 1) = .hidden ∨ ∃ mb, v = .iface 67 (.map (some mb)) := by
          cases hbt with
          | lit hk => exact .inl ⟨rfl, by simp [one, hk]⟩
          | flat hk mb _ => exact .inr ⟨mb, rfl⟩
          | nest hk mb _ => exact .inr ⟨mb, rfl⟩
        rcases hcase with ⟨rfl, h1⟩ | ⟨mb, rfl⟩
        · obtain rfl : R = .hidden := by rw [hone.out, h1]; rfl
          clear hone h1 hbt hp
          go_wp2_with fail
          refine hres.mono ?_
          rintro e w2 ⟨rfl, hw⟩
          obtain rfl := hw.symm
          go_wp2_with fail
          go_ret3
          exact ⟨rfl, _, rfl, .hidden⟩
        · have hlook := look_any (D m) mb B b o pn pc Pt w hbt hp hp0 hpc hpm
          generalize one (D m) pn (Pt 0) (Pt 1) = r at hlook hone
          clear hbt hp
          go_wp2_with fail
          refine hres.mono ?_
          rintro e w2 ⟨rfl, hw⟩
          obtain rfl := hw.symm
          go_wp2_with fail
          refine hlook.mono ?_
          rintro e w2 ⟨hw, x, rfl, hx⟩
          obtain rfl := hw.symm
          clear hlook hres
          cases hx with
          | absent =>
            have hr : Hid (R = model D hz pn (Pt 0) (Pt 1) m) := hone.out
            clear hone
            simp only [Res.code]
            go_wp2_with fail
            exact ⟨⟨m, by omega, by go_num, trivial, hr⟩, by simp [intOf]⟩
          | hidden =>
            obtain rfl : R = .hidden := hone.out
            clear hone
            simp only [Res.code]
            go_wp2_with fail
            go_ret3
            exact ⟨rfl, _, rfl, .hidden⟩
          | str s =>
            obtain rfl : R = .str s := hone.out
            clear hone
            simp only [Res.code]
            go_wp2_with fail
            go_ret3
            exact ⟨rfl, _, rfl, .str s⟩
          | obj s c hl =>
            obtain rfl : R = .obj s := hone.out
            clear hone
            simp only [Res.code]
            go_wp2_with fail
            go_ret3
            exact ⟨rfl, _, rfl, .obj s c hl⟩
end Go.Proofs.YbulkcfocFmt
