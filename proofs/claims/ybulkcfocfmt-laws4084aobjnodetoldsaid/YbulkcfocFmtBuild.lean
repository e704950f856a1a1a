/-
  zzs4084asize (5), zzs4084abuild (14).
-/
import Derived.Test.YbulkcfocFmtLeaves
import Derived.BigQuiet
import Derived.Deep.CutRange
namespace Go.Proofs.YbulkcfocFmt
open Go Go.RowKit Go.Maps

set_option maxRecDepth 100000 in
theorem size_any (A : Option Addr) (n cap B : Nat) (D : Nat → Df) (w : World) (h : Dfs w B A n D) (hn : n ≤ maxLen) :
    Calls Ybaf.prog 5 #[.slice A n cap] w fun e w' => w' = w ∧ ((e = .returned (.bool true) ∧ n ≤ 256 ∧ ∀ j, j < n → (D j).kn ≤ 256) ∨ e = .returned (.bool false)) := by
  unfold maxLen at hn
  by_cases hl : n ≤ 256
  · have hd : decide ((256 : Int) < (n : Int)) = false := decide_eq_false (by omega)
    go_enter Ybaf.func5, Ybaf.ntmps5
    go_wp2_with fail
    go_loopw [3] (fun i wr => ∃ k : Nat, k ≤ n ∧ i = .int .i64 k ∧ wr = w ∧ ∀ j, j < k → (D j).kn ≤ 256) (fun i _ => n - (intOf i).toNat)
    case atStart => exact ⟨0, Nat.zero_le _, rfl, rfl, fun j hj => absurd hj (Nat.not_lt_zero _)⟩
    case round =>
      obtain ⟨k, hk, rfl, hwr, hall⟩ := hrel
      have hwr' := hwr.symm
      subst hwr'
      clear hwr
      have Hall : Hid (∀ j, j < k → (D j).kn ≤ 256) := hall
      clear hall
      by_cases hlt : k < n
      · obtain ⟨b, o, rfl, hb, hrow⟩ := h.row k hlt
        have r2 := hrow 2 (by omega)
        simp [Df.cells] at r2
        have hkm := (h.ok k hlt).kn
        unfold maxLen at hkm
        clear hrow
        by_cases hkl : (D k).kn ≤ 256
        · have hd2 : decide ((256 : Int) < ((D k).kn : Int)) = false := decide_eq_false (by omega)
          go_wp2_with fail
          exact ⟨⟨k + 1, by omega, by go_num, trivial, fun j hj => by
            by_cases e : j = k
            · subst e; exact hkl
            · exact Hall.out j (by omega)⟩, by simp [intOf]; omega⟩
        · have hd2 : decide ((256 : Int) < ((D k).kn : Int)) = true := decide_eq_true (by omega)
          go_wp2_with fail
          go_ret
          exact ⟨rfl, .inr rfl⟩
      · obtain rfl : n = k := by omega
        go_wp2_with fail
        go_ret
        exact ⟨rfl, .inl ⟨rfl, hl, Hall.out⟩⟩
  · have hd : decide ((256 : Int) < (n : Int)) = true := decide_eq_true (by omega)
    go_enter Ybaf.func5, Ybaf.ntmps5
    go_wp2_with fail
    go_ret
    exact ⟨rfl, .inr rfl⟩

def G2' (b : Nat) (d : Df) (w : World) (j : Nat) (v : Value) : Prop := ∃ c, v = .iface 67 (.map (some c)) ∧ c ≠ b ∧ Leaf w c (d.val j)

/-- What stands in the loop of build. -/
structure Bl (G : World → Nat → Value → Prop) (d : Df) (w wr : World) (k : Nat) : Prop where
  below : Below w.heap.size w wr
  blk : Blk wr w.heap.size 57 d.cells
  map : Keyd d.K G wr (w.heap.size + 1) k

theorem Bl.start (G : World → Nat → Value → Prop) (d : Df) (w : World) : Bl G d w ((w.alloc (.cells d.cells 57)).alloc (.map #[] 0)) 0 := by
  refine ⟨((Below.refl _ _).alloc (Nat.le_refl _) _).alloc (by simp) _, (blk_new _ _ _).alloc _, ?_⟩
  have := Keyd.start d.K G (w.alloc (.cells d.cells 57))
  rw [World.size_alloc] at this
  exact this

theorem Keyd.ne {K : Nat → ByteArray} {G : World → Nat → Value → Prop} {w : World} {b k : Nat} (h : Keyd K G w b k) {a : Nat} {t : TypeId} {cs : Array Value} (hb : Blk w a t cs) : a ≠ b := by
  intro e
  subst e
  obtain ⟨f, hh, m, hf⟩ := h
  exact m.noCells hb

theorem Bl.grow {G : World → Nat → Value → Prop} {d : Df} {w wr w' : World} {k k' : Nat} (h : Bl G d w wr k) (hm : Keyd d.K G w' (w.heap.size + 1) k') (hg : wr.grownBy w' (some (w.heap.size + 1))) : Bl G d w w' k' := by
  have hl := h.blk.lt
  exact ⟨h.below.grown hg (by omega) (fun x hx => by injection hx with hx; omega), h.blk.grown hg (by simp), hm⟩

theorem Bl.step1 {d : Df} {w wr : World} {k : Nat} (h : Bl (G1 d) d w wr k) (hk : k < maxLen) (hs : (d.K k).size ≤ maxLen) :
    ∃ w', (Instr.mapUpdate 67 (.map (some (w.heap.size + 1))) (.string (d.K k)) (.iface 76 (.string (d.val k)))).run Ybaf.prog wr = .ok () w' ∧ Bl (G1 d) d w w' (k + 1) := by
  obtain ⟨w', hrun, hm, hg⟩ := h.map.step hk hs (.iface 76 (.string (d.val k))) (fun _ _ _ _ h => h) (fun _ _ => rfl)
  exact ⟨w', hrun, h.grow hm hg⟩

theorem Bl.step2 {d : Df} {w wr : World} {k : Nat} (h : Bl (G2' (w.heap.size + 1) d) d w wr k) (hk : k < maxLen) (hs : (d.K k).size ≤ maxLen) :
    ∃ w1 w', (Instr.mapUpdate 67 (.map (some wr.heap.size)) (.string sx) (.iface 76 (.string (d.val k)))).run Ybaf.prog (wr.alloc (.map #[] 0)) = .ok () w1 ∧
      (Instr.mapUpdate 67 (.map (some (w.heap.size + 1))) (.string (d.K k)) (.iface 67 (.map (some wr.heap.size)))).run Ybaf.prog w1 = .ok () w' ∧ Bl (G2' (w.heap.size + 1) d) d w w' (k + 1) := by
  obtain ⟨w1, hr1, hl, hg1⟩ := leaf_made wr (d.val k)
  have hb1 : Below wr.heap.size wr w1 := ((Below.refl _ _).alloc (Nat.le_refl _) _).grown hg1 (by simp) (fun x hx => by injection hx with hx; omega)
  have ms := MSame.below hb1
  have hlt := h.map.lt
  have hlb := h.blk.lt
  have h1 : Bl (G2' (w.heap.size + 1) d) d w w1 k := ⟨h.below.trans (hb1.mono (by omega)), by
    have := h.blk
    unfold Blk at this ⊢
    rw [hb1.block _ hlb]
    exact this, h.map.imp ms fun j u ⟨c, e, hne, hl⟩ => ⟨c, e, hne, hl.msame ms⟩⟩
  obtain ⟨w', hr2, hm, hg⟩ := h1.map.step hk hs (.iface 67 (.map (some wr.heap.size))) (fun w' hg' j u ⟨c, e, hne, hl⟩ => ⟨c, e, hne, hl.kept hg' (by simpa using hne)⟩) (fun w' hg' => ⟨_, rfl, by omega, hl.kept hg' (by simp; omega)⟩)
  exact ⟨w1, w', hr1, hr2, h1.grow hm hg⟩

set_option maxRecDepth 100000 in
set_option maxHeartbeats 1000000 in
theorem build_any (d : Df) (B : Nat) (w : World) (hd : d.Ok w B) (hB : B ≤ w.heap.size) (hn : d.kn ≤ 256) :
    Calls Ybaf.prog 14 #[.agg d.cells] w fun e w' => ∃ v, e = .returned v ∧ Built w' d v ∧ Below w.heap.size w w' := by
  have hmm := @run_makeMap Ybaf.prog
  have k0 := hd.k0
  have k1 := hd.k1
  have hb0 : Below w.heap.size w (w.alloc (.cells d.cells 57)) := (Below.refl _ _).alloc (Nat.le_refl _) _
  have hblk := blk_new w 57 d.cells
  have hd0 := hd.below hb0 hB
  have h3 : d.kind % 3 = 0 ∨ d.kind % 3 = 1 ∨ d.kind % 3 = 2 := by omega
  rcases h3 with h3 | h3 | h3
  · have hval := val_any d B _ hd0 0 (Nat.zero_le _)
    clear hd hblk
    unfold Df.cells at hb0 hval ⊢
    go_enter Ybaf.func14, Ybaf.ntmps14
    go_wp2_with fail
    refine hval.mono ?_
    rintro e w1 ⟨rfl, rfl⟩
    go_wp2_with fail
    go_ret
    exact ⟨_, rfl, .lit h3, hb0⟩
  · have hs := Bl.start (G1 d) d w
    clear hb0 hblk hd0
    unfold Df.cells at hs ⊢
    go_enter Ybaf.func14, Ybaf.ntmps14
    go_wp2_with fail
    generalize hW : (World.alloc (World.alloc _ _) _ : World) = W at hs ⊢
    clear hW
    rw [h3]
    go_loopw [4] (fun i wr => ∃ k : Nat, k ≤ d.kn ∧ i = .int .i64 k ∧ Bl (G1 d) d w wr k) (fun i _ => d.kn - (intOf i).toNat)
    case atStart => exact ⟨0, Nat.zero_le _, rfl, hs⟩
    case round =>
      clear hs
      obtain ⟨k, hk, rfl, hI⟩ := hrel
      have c1 := hI.blk.cell 1
      have c2 := hI.blk.cell 2
      have c3 := hI.blk.cell 3
      simp [Df.cells] at c1 c2 c3
      by_cases hlt : k < d.kn
      · have hd1 := hd.below hI.below hB
        obtain ⟨⟨b, o, hA, hb, hc⟩, hks⟩ := hd1.keys k hlt
        have hval := val_any d B wr hd1 k (by unfold maxLen; omega)
        rw [hA] at c2
        obtain ⟨w', hrun, hI'⟩ := hI.step1 (by unfold maxLen; omega) hks
        clear hd1 hI hA hd hmm
        go_wp2_with fail
        refine hval.mono ?_
        rintro e w2 ⟨rfl, rfl⟩
        go_wp2_with fail
        go_roundw
        case rel => exact ⟨k + 1, by omega, by go_num, hI'⟩
        case measure => simp [intOf]; omega
      · obtain rfl : d.kn = k := by omega
        clear hd
        go_wp2_with fail
        go_ret
        exact ⟨_, rfl, .flat h3 _ hI.map, hI.below⟩
  · have hs := Bl.start (G2' (w.heap.size + 1) d) d w
    clear hb0 hblk hd0
    unfold Df.cells at hs ⊢
    go_enter Ybaf.func14, Ybaf.ntmps14
    go_wp2_with fail
    generalize hW : (World.alloc (World.alloc _ _) _ : World) = W at hs ⊢
    clear hW
    rw [h3]
    go_loopw [4] (fun i wr => ∃ k : Nat, k ≤ d.kn ∧ i = .int .i64 k ∧ Bl (G2' (w.heap.size + 1) d) d w wr k) (fun i _ => d.kn - (intOf i).toNat)
    case atStart => exact ⟨0, Nat.zero_le _, rfl, hs⟩
    case round =>
      clear hs
      obtain ⟨k, hk, rfl, hI⟩ := hrel
      have c1 := hI.blk.cell 1
      have c2 := hI.blk.cell 2
      have c3 := hI.blk.cell 3
      simp [Df.cells] at c1 c2 c3
      by_cases hlt : k < d.kn
      · have hd1 := hd.below hI.below hB
        obtain ⟨⟨b, o, hA, hb, hc⟩, hks⟩ := hd1.keys k hlt
        have hval := val_any d B wr hd1 k (by unfold maxLen; omega)
        rw [hA] at c2
        obtain ⟨w1, w', hrun1, hrun2, hI'⟩ := hI.step2 (by unfold maxLen; omega) hks
        unfold sx at hrun1
        clear hd1 hI hA hd
        go_wp2_with fail
        refine hval.mono ?_
        rintro e w2 ⟨rfl, rfl⟩
        go_wp2_with fail
        go_roundw
        case rel => exact ⟨k + 1, by omega, by go_num, hI'⟩
        case measure => simp [intOf]; omega
      · obtain rfl : d.kn = k := by omega
        clear hd
        go_wp2_with fail
        go_ret
        exact ⟨_, rfl, .nest h3 _ (hI.map.imp (fun _ _ _ h => h) fun j u ⟨c, e, _, hl⟩ => ⟨c, e, hl⟩), hI.below⟩
end Go.Proofs.YbulkcfocFmt
