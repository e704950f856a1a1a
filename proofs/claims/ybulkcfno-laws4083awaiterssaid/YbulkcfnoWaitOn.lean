/-
  waitOn (6).
-/
import Derived.Test.YbulkcfnoSteps
namespace Go.Proofs.Ybulkcfno
open Go Go.RowKit

theorem eql_entry_same (b : Nat) (w : World) : (binOp .eql 24 (.pointer (some ⟨b, 0, none⟩)) (.pointer (some ⟨b, 0, none⟩))).run Yba.prog w = .ok (.bool true) w := by
  have h := info56
  cases hj : Yba.prog.info? 56 with
  | none => rw [hj] at h; cases h
  | some j => exact run_eql_ptr_same w _ Yba.underlying24 hj

theorem eql_entry_other {b b' : Nat} {cs cs' : Array Value} (hne : b ≠ b') (w : World) (hb : Blk w b 56 cs) (hb' : Blk w b' 56 cs') : (binOp .eql 24 (.pointer (some ⟨b, 0, none⟩)) (.pointer (some ⟨b', 0, none⟩))).run Yba.prog w = .ok (.bool false) w := by
  have h := info56
  cases hj : Yba.prog.info? 56 with
  | none => rw [hj] at h; cases h
  | some j =>
    rw [hj] at h
    simp at h
    exact run_eql_ptr_other w Yba.underlying24 hj h (by simp) hb hb'

theorem two_new (w : World) (x y : Value) (t : TypeId) : ∀ j u, [x, y][j]? = some u → (w.alloc (.cells #[x, y] t)).cell? ((⟨w.heap.size, 0, none⟩ : Addr).add j) = some u := by
  intro j u hj
  rw [Go.WideShapes.add_plain]
  match j, hj with
  | 0, hj => simp at hj; subst hj; simp
  | 1, hj => simp at hj; subst hj; simp

theorem two_one (b : Option Addr) (x : Int) : ∀ u ∈ [Value.pointer b, .int .i64 x], u.oneCell' = true := by
  intro u hu
  simp at hu
  rcases hu with rfl | rfl <;> rfl

/-- Behind the first k ids. -/
structure Wait (L : Lay) (av acv : Value) (w : World) (V : Nat → Value) (Ws : Nat → List (Nat × Int)) (wr : World) (V' : Nat → Value) (k : Nat) : Prop where
  base : Base L av acv wr
  chn : Chn L wr V' (WsAt L.EB L.c Ws k)
  e25 : wr.cell? ⟨L.EB, 25, none⟩ = some (.int .i64 (cD L L.m))
  e26 : wr.cell? ⟨L.EB, 26, none⟩ = some (.int .i64 (cI L L.m))
  step : Stepped L w wr V V'

/-- An element of an owned row that is a slice. -/
theorem owns_get {w : World} {B : Nat} {e : TypeId} {sz : Nat} {A : Option Addr} {n n' cap : Nat} {xs : List Value} (h : w.ownsRow B e sz (.slice A n' cap) n xs) {j : Nat} {u : Value} (hj : xs[j]? = some u) :
    ∃ g cur, A = some ⟨g, 0, none⟩ ∧ B ≤ g ∧ Blk w g e cur ∧ cur[j]? = some u := by
  obtain ⟨A', cap', hv, _, _, hview⟩ := owns_view h
  injection hv with h1 h2 h3
  subst h1
  exact hview j u hj

/-- A store into the entry that waits, no pointer of its: the case stands. -/
theorem Base.setE {L : Lay} {av acv : Value} {w : World} (hb : Base L av acv w) (j : Nat) (v : Value) : Base L av acv (w.setCell ⟨L.EB, j, none⟩ v) := by
  obtain ⟨rcs, hr, hrc⟩ := hb.rowT
  obtain ⟨ecs, he, hes⟩ := hb.eb
  obtain ⟨qcs, hq, hq4⟩ := hb.q
  have s1 : Same (fun t => t != 56) w (w.setCell ⟨L.EB, j, none⟩ v) := Same.setCell he (by rfl) _ _
  refine ⟨by have := hb.size; simpa using this, hb.n1, hb.n2, hb.m2, ⟨rcs, s1 _ _ _ rfl hr, hrc⟩, ⟨_, he.set j v, by simp [hes]⟩, ⟨qcs, s1 _ _ _ rfl hq, hq4⟩, ?_, fun i hi => ?_, s1.owns rfl hb.av, s1.owns rfl hb.acv⟩
  · exact hb.map.same (Below.heap_setCell _ _ _ _ (fun e => by have := hb.map.noCells (cs := ecs) (u := 56) (fr := (0, 0)); rw [e] at this; exact this he))
  · obtain ⟨h1, h2, b, cs, h3, h4, h5, h6⟩ := hb.ids i hi
    exact ⟨h1, h2, b, cs, h3, h4, h5.setOther (Ne.symm h4) _ _, h6⟩

theorem Chn.setE {L : Lay} {w : World} {V : Nat → Value} {Ws : Nat → List (Nat × Int)} (hc : Chn L w V Ws) {b : Nat} {cs : Array Value} (he : Blk w b 56 cs) (j : Nat) (v : Value) : Chn L (w.setCell ⟨b, j, none⟩ v) V Ws :=
  hc.kept (T := fun t => t != 56) (Same.setCell he (by rfl) _ _) rfl rfl (fun b' cs' h => by
    by_cases e : b = b'
    · subst e; exact ⟨_, he.set j v⟩
    · exact ⟨_, h.setOther e _ _⟩)

/-- One step of the loop, whichever: the chains as they are behind id k. -/
theorem Wait.next {L : Lay} {av acv : Value} {W wr w' : World} {V V1 V2 : Nat → Value} {Ws : Nat → List (Nat × Int)} {k : Nat} (hW : Wait L av acv W V Ws wr V1 k)
    (hc : Chn L w' V2 (upd (WsAt L.EB L.c Ws k) (L.c k) (bump L.EB (WsAt L.EB L.c Ws k (L.c k))))) (hs : Stepped L wr w' V1 V2) : Wait L av acv W V Ws w' V2 (k + 1) := by
  obtain ⟨ecs, he, _⟩ := hW.base.eb
  have he' := hs.same _ _ _ rfl he
  refine ⟨hW.base.stepped hs, by rw [WsAt_succ]; exact hc, ?_, ?_, hW.step.trans hs⟩
  · rw [he'.cell 25, ← he.cell 25]; exact hW.e25
  · rw [he'.cell 26, ← he.cell 26]; exact hW.e26

theorem Wait.app {L : Lay} {av acv : Value} {W wr w2 : World} {V V1 : Nat → Value} {Ws : Nat → List (Nat × Int)} {k : Nat} (hW : Wait L av acv W V Ws wr V1 k) (hcn : L.c k < L.n) (hCH : L.B ≤ L.CH)
    {v1 : Value} (HV : Hid (V1 (L.c k) = v1)) {l : List (Nat × Int)} (Hl : Hid (WsAt L.EB L.c Ws k (L.c k) = l)) (Hb : Hid (bump L.EB l = l ++ [(L.EB, 1)])) {v' : Value}
    (hown : w2.ownsRow L.B 41 2 v' (l.length + 1) (wcells l ++ [.pointer (some ⟨L.EB, 0, none⟩), .int .i64 1]))
    (hg : (wr.alloc (.cells #[.pointer (some ⟨L.EB, 0, none⟩), .int .i64 1] 41)).grownBy w2 v1.ownBlock)
    (hat : v'.ownBlock = v1.ownBlock ∨ v'.ownBlock = some (wr.heap.size + 1)) :
    (∃ cs, Blk w2 (L.CH + 1 + L.c k) 38 cs ∧ cs.size = 3) ∧ Wait L av acv W V Ws (w2.setCell ⟨L.CH + 1 + L.c k, 1, none⟩ v') (upd V1 (L.c k) v') (k + 1) := by
  have hl := Hl.out
  have hv := HV.out
  have hb := Hb.out
  obtain ⟨ecs, he, _⟩ := hW.base.eb
  subst hv
  obtain ⟨h1, h2⟩ := hW.chn.append hcn L.EB 1 ⟨ecs, he⟩ hW.base.size hCH (by rw [hl]; exact hown) hg hat
  have s1 : Same (fun t => t != 41) (wr.alloc (.cells #[.pointer (some ⟨L.EB, 0, none⟩), .int .i64 1] 41)) w2 := same_append ((hW.chn.alloc _).own _ hcn) hg (by rfl)
  refine ⟨⟨_, s1 _ _ _ rfl ((hW.chn.alloc _).chain _ hcn), rfl⟩, hW.next ?_ h2⟩
  rw [hl, hb, ← hl]
  exact h1

set_option maxRecDepth 100000 in
set_option maxHeartbeats 2000000 in
theorem waitOn_any (L : Lay) (av acv : Value) (V : Nat → Value) (Ws : Nat → List (Nat × Int)) (w : World) (hb : Base L av acv w) (hc : Chn L w V Ws) (hCH : L.B ≤ L.CH) (hEB : L.B ≤ L.EB)
    (hlen : ∀ i, i < L.n → (Ws i).length ≤ 1024) (hcnt : ∀ i, i < L.n → ∀ p ∈ Ws i, 0 ≤ p.2 ∧ p.2 ≤ 3) :
    Calls Yba.prog 6 #[.pointer (some ⟨L.QB, 0, none⟩), .pointer (some ⟨L.EB, 0, none⟩), av] w fun e w' => e = .returned (.tuple #[]) ∧
      ∃ w1 V', Same (fun t => t != 56) w w1 ∧ Below L.B w w1 ∧ Chn L w1 V Ws ∧ Wait L av acv w1 V Ws w' V' L.m := by
  have hm := hb.m2
  obtain ⟨A, cap, rfl, _, _, _⟩ := owns_view hb.av
  obtain ⟨i0, hi0, hz0, hz1, hz2⟩ := info_parts info41
  go_enter Yba.func6, Yba.ntmps6
  go_wp2_with fail
  refine (waitsOf_any L (.slice A L.m cap) acv V Ws w hb hc).mono ?_
  rintro e w1 ⟨rfl, hB1⟩
  have hs1 : Same (fun t => t != 56) w w1 := fun _ _ _ _ h => below_blk hB1 h h.lt
  have hb1 : Base L (.slice A L.m cap) acv w1 := hb.stepped (Stepped.below' V hb.size hB1)
  have hc1 : Chn L w1 V Ws := hc.kept (T := fun _ => true) (fun _ _ _ _ h => below_blk hB1 h h.lt) rfl rfl (fun _ cs h => ⟨cs, below_blk hB1 h h.lt⟩)
  have hlo1 : Below L.B w w1 := hB1.mono hb.size
  clear hb hc hB1
  obtain ⟨ecs, he, hes⟩ := hb1.eb
  obtain ⟨x25, g25⟩ : ∃ x, ecs[25]? = some x := ⟨_, Array.getElem?_eq_getElem (by omega)⟩
  obtain ⟨x26, g26⟩ : ∃ x, ecs[26]? = some x := ⟨_, Array.getElem?_eq_getElem (by omega)⟩
  have c25 := (he.cell 25).trans g25
  have c26 := (he.cell 26).trans g26
  have f25 := he.frozen 25
  have f26 := he.frozen 26
  go_wp2_with fail
  have hb2 := (hb1.setE 25 (.int .i64 (cD L L.m))).setE 26 (.int .i64 (cI L L.m))
  have hc2 := (hc1.setE he 25 (.int .i64 (cD L L.m))).setE (he.set 25 _) 26 (.int .i64 (cI L L.m))
  have hs2 : Same (fun t => t != 56) w ((w1.setCell ⟨L.EB, 25, none⟩ (.int .i64 (cD L L.m))).setCell ⟨L.EB, 26, none⟩ (.int .i64 (cI L L.m))) := (hs1.trans (Same.setCell he (by rfl) _ _)).trans (Same.setCell (he.set 25 _) (by rfl) _ _)
  have hlo2 := (hlo1.setCell (p := ⟨L.EB, 25, none⟩) hEB (.int .i64 (cD L L.m))).setCell (p := ⟨L.EB, 26, none⟩) hEB (.int .i64 (cI L L.m))
  have k25 : ((w1.setCell ⟨L.EB, 25, none⟩ (.int .i64 (cD L L.m))).setCell ⟨L.EB, 26, none⟩ (.int .i64 (cI L L.m))).cell? ⟨L.EB, 25, none⟩ = some (.int .i64 (cD L L.m)) := by
    rw [((he.set 25 _).set 26 _).cell 25]; simp [hes]
  have k26 : ((w1.setCell ⟨L.EB, 25, none⟩ (.int .i64 (cD L L.m))).setCell ⟨L.EB, 26, none⟩ (.int .i64 (cI L L.m))).cell? ⟨L.EB, 26, none⟩ = some (.int .i64 (cI L L.m)) := by
    rw [((he.set 25 _).set 26 _).cell 26]; simp [hes]
  clear c25 c26 f25 f26 g25 g26 he hes hs1 hb1 hc1 hlo1
  generalize (w1.setCell ⟨L.EB, 25, none⟩ (.int .i64 (cD L L.m))).setCell ⟨L.EB, 26, none⟩ (.int .i64 (cI L L.m)) = W at *
  go_loopw [18] (fun i wr => ∃ (k : Nat) (V' : Nat → Value), k ≤ L.m ∧ i = .int .i64 k ∧ Wait L (.slice A L.m cap) acv W V Ws wr V' k) (fun i _ => L.m - (intOf i).toNat)
  case atStart => exact ⟨0, V, Nat.zero_le _, rfl, hb2, hc2, k25, k26, Stepped.refl _ _ _⟩
  case round =>
    clear k25 k26
    obtain ⟨k, V', hk, rfl, hW⟩ := hrel
    by_cases hlt : k < L.m
    · obtain ⟨ga, cur, rfl, hgB, hblk, hcur⟩ := owns_get hW.base.av (range_get _ hlt)
      obtain ⟨hs, hcn, eb, ecs, hf, _, heb, h24⟩ := hW.base.ids k hlt
      obtain ⟨qcs, hq, hq4⟩ := hW.base.q
      have hch := hW.chn.chain (L.c k) hcn
      have r1 := (hblk.cell k).trans hcur
      have r2 := (hq.cell 4).trans hq4
      have r3 := hW.base.map.look (t := 60) (e := 24) Yba.underlying9 Yba.underlying60 (zero24 wr) hs
      rw [hf] at r3
      have r4 := (heb.cell 24).trans h24
      have r5 := hch.cell 1
      simp at r5
      have hlen' := WsAt_len (E := L.EB) (c := L.c) (hlen _ hcn) k
      have hcnt' := WsAt_cnt (E := L.EB) (c := L.c) (by omega) (hcnt _ hcn) k
      have hown := hW.chn.own (L.c k) hcn
      have Hsucc : Hid (WsAt L.EB L.c Ws (k + 1) = upd (WsAt L.EB L.c Ws k) (L.c k) (bump L.EB (WsAt L.EB L.c Ws k (L.c k)))) := WsAt_succ _ _ _ _
      obtain ⟨A2, cap2, hv2, _, _, _⟩ := owns_view hown
      rw [hv2] at r5
      have HV : Hid (V' (L.c k) = .slice A2 (WsAt L.EB L.c Ws k (L.c k)).length cap2) := hv2
      have hown2 := hown
      rw [hv2] at hown2
      clear hv2 hown
      rcases snoc_cases (WsAt L.EB L.c Ws k (L.c k)) with hnil | ⟨a, b, x, hsn⟩
      · have hl0 : (WsAt L.EB L.c Ws k (L.c k)).length ≤ 0 := by rw [hnil]; exact Nat.le_refl _
        have Hb : Hid (bump L.EB (WsAt L.EB L.c Ws k (L.c k)) = WsAt L.EB L.c Ws k (L.c k) ++ [(L.EB, 1)]) := by rw [hnil]; rfl
        clear hlen' hcnt' hblk hq heb hch h24 hq4 hcur hf hs hnil hgB
        generalize hl : WsAt L.EB L.c Ws k (L.c k) = l at *
        have Hl : Hid (WsAt L.EB L.c Ws k (L.c k) = l) := hl
        clear hl
        have hgd : decide ((0 : Int) ≤ (l.length : Int) - 1) = false := by simp; omega
        go_wp2_with (at_builtin; refine wpList_append_own_at _ rfl _ _ 34 rfl L.B 41 i0 (.agg #[.pointer none, .int .i64 0]) 2 16 Yba.underlying34 hi0 hz0 hz1 hz2 rfl (by decide) _ _ _ rfl (hown2.alloc _) ⟨wr.heap.size, 0, none⟩ 1 1 [.pointer (some ⟨L.EB, 0, none⟩), .int .i64 1] rfl rfl (two_new _ _ _ _) (two_one _ _) (by unfold maxLen; omega) (by omega) (by have := hW.base.size; simp; omega) ?_)
        intro v' w2 hown' hgrow _ hat
        obtain ⟨A3, cap3, rfl, _, _, _⟩ := owns_view hown'
        obtain ⟨⟨ccs, hcb, hcs⟩, hW2⟩ := hW.app hcn hCH HV Hl Hb hown' hgrow hat
        obtain ⟨xo, hxo⟩ : ∃ x, ccs[1]? = some x := ⟨_, Array.getElem?_eq_getElem (by omega)⟩
        have t1 := (hcb.cell 1).trans hxo
        have t2 := hcb.frozen 1
        clear r1 r2 r3 r4 r5 hown' hgrow hat hown2 Hl Hb HV hcb hcs hxo hW Hsucc
        go_wp2_with fail
        go_roundw
        case rel => exact ⟨k + 1, _, by omega, by go_num, hW2⟩
        case measure => simp [intOf]; omega
      · obtain ⟨g2, cur2, rfl, hg2B, hblk2, hc0⟩ := owns_get hown2 (show (wcells (WsAt L.EB L.c Ws k (L.c k)))[a.length * 2]? = some (.pointer (some ⟨b, 0, none⟩)) by
          have := wcells_get (a ++ [(b, x)]) a.length (by simp)
          rw [hsn]
          simpa using this.1)
        obtain ⟨_, cur2', hg2', _, hblk2', hc1⟩ := owns_get hown2 (show (wcells (WsAt L.EB L.c Ws k (L.c k)))[a.length * 2 + 1]? = some (.int .i64 x) by
          have := wcells_get (a ++ [(b, x)]) a.length (by simp)
          rw [hsn]
          simpa using this.2)
        injection hg2' with hg2'
        injection hg2' with hg2' _ _
        subst hg2'
        obtain ⟨_, rfl⟩ := hblk2.uniq hblk2'
        have r6 := (hblk2.cell (a.length * 2)).trans hc0
        have r7 := (hblk2.cell (a.length * 2 + 1)).trans hc1
        have f7 := hblk2.frozen (a.length * 2 + 1)
        have hx := hcnt' (b, x) (by rw [hsn]; simp)
        simp only at hx
        obtain ⟨bcs, hbb⟩ := hW.chn.ents (L.c k) hcn (b, x) (by rw [hsn]; simp)
        obtain ⟨ecs', hee, _⟩ := hW.base.eb
        have hl1 : (WsAt L.EB L.c Ws k (L.c k)).length = a.length + 1 := by rw [hsn]; simp
        rw [hl1] at r5 hown2 hlen'
        clear hblk2 hblk2' hc0 hc1 hblk hq heb hch h24 hq4 hcur hf hs hgB hcnt' hg2B
        by_cases hbE : b = L.EB
        · subst hbE
          have he := eql_entry_same L.EB
          have hgd : decide ((0 : Int) ≤ (a.length : Int) + 1 - 1) = true := by simp
          have Hsn : Hid (WsAt L.EB L.c Ws k (L.c k) = a ++ [(L.EB, x)]) := hsn
          clear hl1 hsn hown2 hbb hee
          go_wp2_with fail
          have hW2 : Wait L (.slice (some ⟨ga, 0, none⟩) L.m cap) acv W V Ws (wr.setCell ⟨g2, a.length * 2 + 1, none⟩ (.int .i64 (x + 1))) V' (k + 1) := by
            obtain ⟨h1, h2⟩ := hW.chn.inc hcn Hsn.out HV.out (x + 1)
            refine hW.next ?_ h2
            rw [Hsn.out, bump_hit]
            exact h1
          go_roundw
          case rel => exact ⟨k + 1, _, by omega, by go_num, hW2⟩
          case measure => simp [intOf]; omega
        · have he := eql_entry_other hbE wr hbb hee
          have hgd : decide ((0 : Int) ≤ (a.length : Int) + 1 - 1) = true := by simp
          have Hb : Hid (bump L.EB (WsAt L.EB L.c Ws k (L.c k)) = WsAt L.EB L.c Ws k (L.c k) ++ [(L.EB, 1)]) := by
            rw [hsn]; exact bump_miss L.EB a b x hbE
          have Hl1 : Hid ((WsAt L.EB L.c Ws k (L.c k)).length = a.length + 1) := hl1
          clear hl1 hsn hbb hee
          generalize hl : WsAt L.EB L.c Ws k (L.c k) = l at *
          have Hl : Hid (WsAt L.EB L.c Ws k (L.c k) = l) := hl
          clear hl
          go_wp2_with (at_builtin; refine wpList_append_own_at _ rfl _ _ 34 rfl L.B 41 i0 (.agg #[.pointer none, .int .i64 0]) 2 16 Yba.underlying34 hi0 hz0 hz1 hz2 rfl (by decide) _ _ _ rfl (hown2.alloc _) ⟨wr.heap.size, 0, none⟩ 1 1 [.pointer (some ⟨L.EB, 0, none⟩), .int .i64 1] rfl rfl (two_new _ _ _ _) (two_one _ _) (by unfold maxLen; omega) (by omega) (by have := hW.base.size; simp; omega) ?_)
          intro v' w2 hown' hgrow _ hat
          obtain ⟨A3, cap3, rfl, _, _, _⟩ := owns_view hown'
          rw [← Hl1.out] at hown' hgrow hat
          obtain ⟨⟨ccs, hcb, hcs⟩, hW2⟩ := hW.app hcn hCH HV Hl Hb (by rw [Hl1.out] at hown' ⊢; exact hown') hgrow hat
          rw [Hl1.out] at hW2
          obtain ⟨xo, hxo⟩ : ∃ x, ccs[1]? = some x := ⟨_, Array.getElem?_eq_getElem (by omega)⟩
          have t1 := (hcb.cell 1).trans hxo
          have t2 := hcb.frozen 1
          clear r1 r2 r3 r4 r5 r6 r7 f7 he hown' hgrow hat hown2 Hl Hb HV hcb hcs hxo hW Hsucc Hl1
          go_wp2_with fail
          go_roundw
          case rel => exact ⟨k + 1, _, by omega, by go_num, hW2⟩
          case measure => simp [intOf]; omega
    · obtain rfl : k = L.m := by omega
      go_wp2_with fail
      go_end0
      exact ⟨rfl, W, V', hs2, hlo2, hc2, hW⟩
end Go.Proofs.Ybulkcfno
