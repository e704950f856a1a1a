/-
  LawS4084AObjNode (4).
-/
import Derived.Test.YbulkcfocFmtApp
namespace Go.Proofs.YbulkcfocFmt
open Go Go.RowKit Go.Maps

theorem one_str (x : ByteArray) : ∀ u ∈ [Value.string x], u.oneCell' = true := by
  intro u hu
  simp at hu
  subst hu
  rfl
theorem str_one (pn : Nat) (Pt : Nat → ByteArray) : ∀ u ∈ (List.range pn).map (fun i => Value.string (Pt i)), u.oneCell' = true := by
  intro u hu
  simp at hu
  obtain ⟨x, _, rfl⟩ := hu
  rfl

theorem news_path {w : World} {B b o pn : Nat} {Pt : Nat → ByteArray} (hp : StrIs w B (some ⟨b, o, none⟩) pn Pt) : ∀ j u, ((List.range pn).map (fun i => Value.string (Pt i)))[j]? = some u → w.cell? ((⟨b, o, none⟩ : Addr).add j) = some u := by
  intro j u hu
  rw [show (⟨b, o, none⟩ : Addr).add j = ⟨b, o + j, none⟩ by simp [Addr.add]]
  rw [List.getElem?_map] at hu
  by_cases hj : j < pn
  case neg =>
    rw [List.getElem?_eq_none (by simp; omega)] at hu
    cases hu
  rw [List.getElem?_range hj] at hu
  simp at hu
  subst hu
  obtain ⟨⟨_, _, e, _, hc⟩, _⟩ := hp j hj
  injection e with e
  injection e with e1 e2
  subst e1 e2
  exact hc

/-- An owned row of strings that is not empty, seen as a slice. -/
theorem owns_at {w : World} {B : Nat} {v : Value} {n : Nat} {xs : List Value} (h : w.ownsRow B 9 1 v n xs) (hn : 0 < n) :
    ∃ g cap cur, v = .slice (some ⟨g, 0, none⟩) n cap ∧ n ≤ cap ∧ cap ≤ maxLen ∧ Blk w g 9 cur ∧ ∀ (j : Nat) (u : Value), xs[j]? = some u → cur[j]? = some u := by
  rcases h.2 with ⟨rfl, rfl⟩ | ⟨g, cap, cur, rfl, _, hg, h1, h2, _, ht⟩
  · omega
  · refine ⟨g, cap, cur, rfl, h1, h2, hg, fun j u hj => ?_⟩
    rw [← ht, List.getElem?_take] at hj
    split at hj
    · simpa using hj
    · cases hj

/-- What stands when the object and the slice that holds it are made. -/
structure Obj0 (w W : World) (A : Option Addr) (n cap : Nat) (D : Nat → Df) (M ob db ro : Nat) : Prop where
  below : Below w.heap.size w W
  ready : Ready W A n D
  map : ∃ f hh, MapIs Ybaf.prog 9 (.slice none 0 0) W M 1 f hh ∧ f sk = .slice A n cap
  o2 : W.cell? ⟨ob, 2, none⟩ = some (.map (some M))
  r0 : W.cell? ⟨ro, 0, none⟩ = some (.pointer (some ⟨db, 0, none⟩))
  d0 : W.cell? ⟨db, 0, none⟩ = some (.int .i64 (-9223372036854775808))
  d1 : W.cell? ⟨db, 1, none⟩ = some (.iface 45 (.pointer (some ⟨ob, 0, none⟩)))

theorem Obj0.kept {w W W' : World} {A : Option Addr} {n cap : Nat} {D : Nat → Df} {M ob db ro : Nat} (h : Obj0 w W A n cap D M ob db ro) (hb : Below W.heap.size W W') : Obj0 w W' A n cap D M ob db ro := by
  obtain ⟨f, hh, hm, hf⟩ := h.map
  exact ⟨h.below.trans (hb.mono h.below.size), h.ready.below hb, ⟨f, hh, (MSame.below hb).map hm, hf⟩,
    (hb.cell (World.block_lt_of_cell? W _ h.o2)).trans h.o2, (hb.cell (World.block_lt_of_cell? W _ h.r0)).trans h.r0, (hb.cell (World.block_lt_of_cell? W _ h.d0)).trans h.d0, (hb.cell (World.block_lt_of_cell? W _ h.d1)).trans h.d1⟩

theorem obj_made {w w1 : World} {A : Option Addr} {n cap : Nat} {D : Nat → Df} {xs : List Value} (h : Lits w w1 D (.slice A n cap) n xs) :
    ∃ w2, (Instr.mapUpdate 46 (.map (some w1.heap.size)) (.string sk) (.slice A n cap)).run Ybaf.prog (w1.alloc (.map #[] 0)) = .ok () w2 ∧ w1.heap.size < w2.heap.size ∧
      Obj0 w (((w2.alloc (.cells #[.string ⟨#[]⟩, .int .i64 0, .map (some w1.heap.size)] 50)).alloc (.cells #[.int .i64 (-9223372036854775808), .iface 45 (.pointer (some ⟨w2.heap.size, 0, none⟩))] 55)).alloc (.cells #[.pointer (some ⟨w2.heap.size + 1, 0, none⟩)] 51)) A n cap D w1.heap.size w2.heap.size (w2.heap.size + 1) (w2.heap.size + 1 + 1) := by
  have m0 := mapIs_made Ybaf.prog 9 (.slice none 0 0) w1
  obtain ⟨w2, hrun, hm, hg⟩ := m0.update Ybaf.underlying9 Ybaf.underlying46 (by unfold maxLen; omega) sk_size (.slice A n cap)
  have hb2 : Below w1.heap.size w1 w2 := ((Below.refl _ _).alloc (Nat.le_refl _) _).grown hg (by simp) (fun x hx => by injection hx with hx; omega)
  have hsz := hm.lt
  have hle := h.below.size
  refine ⟨w2, hrun, hsz, ?_⟩
  generalize hX : (((w2.alloc (.cells #[.string ⟨#[]⟩, .int .i64 0, .map (some w1.heap.size)] 50)).alloc (.cells #[.int .i64 (-9223372036854775808), .iface 45 (.pointer (some ⟨w2.heap.size, 0, none⟩))] 55)).alloc (.cells #[.pointer (some ⟨w2.heap.size + 1, 0, none⟩)] 51)) = X
  have hb3 : Below w2.heap.size w2 X := by
    rw [← hX]
    exact (((Below.refl _ _).alloc (Nat.le_refl _) _).alloc (by simp) _).alloc (by simp; omega) _
  have hbX : Below w1.heap.size w1 X := hb2.trans (hb3.mono (by omega))
  have k1 : Blk X w2.heap.size 50 #[.string ⟨#[]⟩, .int .i64 0, .map (some w1.heap.size)] := by
    rw [← hX]
    exact ((blk_new _ _ _).alloc _).alloc _
  have k2 : Blk X (w2.heap.size + 1) 55 #[.int .i64 (-9223372036854775808), .iface 45 (.pointer (some ⟨w2.heap.size, 0, none⟩))] := by
    rw [← hX]
    have := (blk_new (w2.alloc (.cells #[.string ⟨#[]⟩, .int .i64 0, .map (some w1.heap.size)] 50)) 55 #[.int .i64 (-9223372036854775808), .iface 45 (.pointer (some ⟨w2.heap.size, 0, none⟩))]).alloc (.cells #[.pointer (some ⟨w2.heap.size + 1, 0, none⟩)] 51)
    rw [World.size_alloc] at this
    exact this
  have k3 : Blk X (w2.heap.size + 1 + 1) 51 #[.pointer (some ⟨w2.heap.size + 1, 0, none⟩)] := by
    rw [← hX]
    have := blk_new ((w2.alloc (.cells #[.string ⟨#[]⟩, .int .i64 0, .map (some w1.heap.size)] 50)).alloc (.cells #[.int .i64 (-9223372036854775808), .iface 45 (.pointer (some ⟨w2.heap.size, 0, none⟩))] 55)) 51 #[.pointer (some ⟨w2.heap.size + 1, 0, none⟩)]
    rw [World.size_alloc, World.size_alloc] at this
    exact this
  exact ⟨h.below.trans (hbX.mono hle), h.ready.below hbX, ⟨_, _, (MSame.below hb3).map hm, by simp⟩, k1.cell 2, k3.cell 0, k2.cell 0, k2.cell 1⟩

theorem full_get (pn : Nat) (Pt : Nat → ByteArray) (j : Nat) (hj : j < pn) : ([] ++ [Value.string sk] ++ (List.range pn).map (fun i => Value.string (Pt i)))[1 + j]? = some (.string (Pt j)) := by
  rw [List.getElem?_append_right (by simp)]
  rw [List.getElem?_map]
  rw [List.getElem?_range (by simpa using hj)]
  simp

set_option maxRecDepth 100000 in
set_option maxHeartbeats 2000000 in
theorem law_obj (A PA : Option Addr) (n cap pn pc : Nat) (D : Nat → Df) (Pt : Nat → ByteArray) (hz : Int) (w : World) (h : Dfs w w.heap.size A n D) (hn : n ≤ maxLen)
    (hp : StrIs w w.heap.size PA pn Pt) (hpm : pn ≤ maxLen) (hz0 : -9223372036854775808 ≤ hz) :
    Calls Ybaf.prog 4 #[.slice A n cap, .slice PA pn pc, .int .i64 hz] w fun e w' => e = .returned (.bool true) ∧ Below w.heap.size w w' := by
  have hsize := size_any A n cap _ D w h hn
  have hmm := @run_makeMap Ybaf.prog
  obtain ⟨i9, hi9, z9a, z9b, z9c⟩ := info_parts info9
  unfold maxLen at hn hpm
  go_enter Ybaf.func4, Ybaf.ntmps4
  go_wp2_with fail
  refine hsize.mono ?_
  rintro e w1 ⟨hw, ⟨rfl, hn2, hk2⟩ | rfl⟩
  case inr =>
    obtain rfl := hw.symm
    go_wp2_with fail
    go_ret
    exact ⟨rfl, Below.refl _ _⟩
  case inl =>
    obtain rfl := hw.symm
    clear hsize
    by_cases hpl : 256 < pn
    · have hd : decide ((256 : Int) < (pn : Int)) = true := decide_eq_true (by omega)
      go_wp2_with fail
      go_ret
      exact ⟨rfl, Below.refl _ _⟩
    have hd : decide ((256 : Int) < (pn : Int)) = false := decide_eq_false (by omega)
    by_cases hp0 : pn = 0
    · subst hp0
      go_wp2_with fail
      go_ret
      exact ⟨rfl, Below.refl _ _⟩
    have hp0' : 0 < pn := by omega
    have hd0 : ((pn : Int) == 0) = false := by simp; omega
    obtain ⟨⟨b, o, rfl, hbl, _⟩, _⟩ := hp 0 hp0'
    go_wp2_with fail
    refine (defs_any A n cap w.heap.size D w h (Nat.le_refl _) hn2 hk2).mono ?_
    rintro e w1 ⟨sl, xs, rfl, hL⟩
    obtain ⟨A', cap', rfl, _, _⟩ := owns_view hL.own
    obtain ⟨w2, hrun, hsz12, hO⟩ := obj_made hL
    unfold sk at hrun
    clear hL
    go_upto_region 8 with fail
    generalize hX : (World.alloc (World.alloc (World.alloc w2 _) _) _ : World) = X at hO ⊢
    clear hX hrun
    generalize w1.heap.size = M at hO ⊢
    generalize w2.heap.size + 1 + 1 = ro at hO ⊢
    generalize w2.heap.size + 1 = db at hO ⊢
    generalize w2.heap.size = ob at hO ⊢
    clear hsz12
    go_wp2_with (at_make; refine wpList_make_own _ rfl _ _ 40 rfl X.heap.size 9 i9 (.string ⟨#[]⟩) 1 Ybaf.underlying40 hi9 z9a z9b .i64 .i64 _ (pn + 1) rfl rfl (by simp) (by rw [z9c]; omega) (by unfold maxLen; omega) (by simp) ?_)
    intro w4 hown4 hg4
    have hb4 : Below X.heap.size X w4 := (Below.refl _ _).grown hg4 (Nat.le_refl _) (fun k hk => by cases hk)
    have hs4 := hb4.size
    clear hg4
    generalize Value.slice (some ⟨X.heap.size, 0, none⟩) 0 (pn + 1) = v4 at hown4 ⊢
    have hown4' := hown4.alloc (.cells #[.string ⟨#[107]⟩] 9)
    obtain ⟨A4, cap4, rfl, _, _⟩ := owns_view hown4
    go_wp2_with (at_builtin; refine wpList_append_own_at _ rfl _ _ 40 rfl X.heap.size 9 i9 (.string ⟨#[]⟩) 1 16 Ybaf.underlying40 hi9 z9a z9b z9c rfl (by decide) _ _ _ rfl hown4' ⟨w4.heap.size, 0, none⟩ 1 1 [.string ⟨#[107]⟩] rfl rfl (cell_one_new _ _ _) (one_str _) (by unfold maxLen; omega) (by omega) (by simp; omega) ?_)
    intro v5 w5 hown5 hg5 _ _
    have hb5 : Below X.heap.size X w5 := (hb4.alloc hs4 _).grown hg5 (by simp; omega) (fun k hk => (hown4.lt k hk).1)
    have hs5 := hb5.size
    clear hg5 hown4 hown4'
    obtain ⟨A5, cap5, rfl, _, _⟩ := owns_view hown5
    have hbw5 : Below w.heap.size w w5 := hO.below.trans (hb5.mono hO.below.size)
    have hp5 := hp.below hbw5 (Nat.le_refl _)
    go_wp2_with (at_builtin; refine wpList_append_path rfl _ _ rfl X.heap.size _ _ _ rfl hown5 ⟨b, o, none⟩ pn pc ((List.range pn).map (fun i => Value.string (Pt i))) rfl (by simp) (news_path hp5) (str_one pn Pt) (by unfold maxLen; omega) (by omega) (by omega) ?_)
    intro v6 w6 hown6 hg6
    have hb6 : Below X.heap.size X w6 := hb5.grown hg6 (by omega) (fun k hk => (hown5.lt k hk).1)
    clear hg6 hown5 hp5 hbw5 hb5
    obtain ⟨g, cap6, cur, rfl, hc6, hm6, hblk6, hcur⟩ := owns_at hown6 (by omega)
    clear hown6
    have g0 := (hblk6.cell 0).trans (hcur 0 _ rfl)
    have gi : ∀ i, i < pn → w6.cell? ⟨g, 1 + i, none⟩ = some (.string (Pt i)) := fun i hi => (hblk6.cell (1 + i)).trans (hcur (1 + i) _ (full_get pn Pt i hi))
    have hps : ∀ i, i < pn → (Pt i).size ≤ maxLen := fun i hi => (hp i hi).2
    have hO6 := hO.kept hb6
    have hgl := hblk6.lt
    rw [show 0 + 1 + pn = pn + 1 by omega] at hc6 ⊢
    clear hcur hblk6 hb6 hO hb4 hs4 hs5
    go_wp2_with fail
    refine (newResolver_any w6).mono ?_
    rintro e w7 ⟨⟨rb, rfl⟩, hb7⟩
    have hO7 := hO6.kept hb7
    have g7 : w7.cell? ⟨g, 0, none⟩ = some (.string sk) := (hb7.cell (p := ⟨g, 0, none⟩) hgl).trans g0
    have hp7 : StrIs w7 w7.heap.size (some ⟨g, 1, none⟩) pn Pt := fun i hi => ⟨⟨g, 1, rfl, Nat.lt_of_lt_of_le hgl hb7.size, (hb7.cell (p := ⟨g, 1 + i, none⟩) hgl).trans (gi i hi)⟩, hps i hi⟩
    clear hO6 g0 gi hb7 hgl hps
    obtain ⟨f, hh, hm, hf⟩ := hO7.map
    by_cases hzm : hz = -9223372036854775808
    · subst hzm
      have hfin := hO7.below
      have hob := obj_min rb ro db _ (.slice (some ⟨g, 0, none⟩) (pn + 1) cap6) w7 hO7.r0 hO7.d0 hO7.d1
      clear h hp hO7 hp7 hm
      go_wp2_with fail
      refine hob.mono ?_
      rintro e w8 ⟨rfl, hw8⟩
      obtain rfl := hw8.symm
      go_wp2_with fail
      go_ret
      exact ⟨rfl, hfin⟩
    · obtain ⟨R, hR⟩ : ∃ R, R = model D hz pn (Pt 0) (Pt 1) n := ⟨_, rfl⟩
      have HR : Hid (R = model D hz pn (Pt 0) (Pt 1) n) := hR
      clear hR
      have hzb : (hz == -9223372036854775808) = false := by simpa using hzm
      have hin := lookupIn_any rb ob M 1 f hh A' n cap' D w7.heap.size g pn cap6 Pt hz w7 hO7.ready hn2 hO7.o2 hm hf g7 hp7 hp0' hc6 (by unfold maxLen; omega) R HR
      have hob := obj_any rb ro db ob (.slice (some ⟨g, 0, none⟩) (pn + 1) cap6) hz R w7 hO7.r0 hO7.d0 hO7.d1 (by omega) hin
      have hb7 := hO7.below
      clear hO7 hin hm hf g7 hp7
      go_wp2_with fail
      refine hob.mono ?_
      rintro e w8 ⟨hb8', x, rfl, hx⟩
      have hb8 : Below w.heap.size w w8 := hb7.trans (hb8'.mono hb7.size)
      have hmod := model_any A n cap D w.heap.size b o pn pc Pt hz w8 (h.below hb8 (Nat.le_refl _)) hb8.size hn2 hk2 (hp.below hb8 (Nat.le_refl _)) hp0' (by unfold maxLen; omega) R HR
      clear hob hb8' hb7 h hp
      go_wp2_with fail
      refine hmod.mono ?_
      rintro e w9 ⟨rfl, hb9⟩
      have hx9 := hx.msame (MSame.below hb9)
      have hfin : Below w.heap.size w w9 := hb8.trans (hb9.mono hb8.size)
      clear hx hmod
      go_wp2_with fail
      refine (check_any R x w9 hx9).mono ?_
      rintro e w10 ⟨rfl, hw10⟩
      obtain rfl := hw10.symm
      go_wp2_with fail
      go_ret
      exact ⟨rfl, hfin⟩
end Go.Proofs.YbulkcfocFmt
