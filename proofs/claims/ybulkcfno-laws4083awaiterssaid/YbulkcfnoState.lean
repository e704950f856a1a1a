/-
  What the case that zzs4083abuild makes looks like in memory.
-/
import Derived.Test.YbulkcfnoSame
import Derived.Test.YbulkcfnoMap
namespace Go.Proofs.Ybulkcfno
open Go Go.RowKit

/-- The numbers of a case: its blocks, its chains' statuses, the tasks' map, the ids waited on and their chains. -/
structure Lay where
  B : Nat
  n : Nat
  CH : Nat
  EB : Nat
  QB : Nat
  MB : Nat
  N : Nat
  m : Nat
  g : Nat → ByteArray
  f : ByteArray → Value
  hf : ByteArray → Bool
  s : Nat → ByteArray
  c : Nat → Nat

/-- What waitOn leaves alone but for the entry's counts. -/
structure Base (L : Lay) (av acv : Value) (w : World) : Prop where
  size : L.B ≤ w.heap.size
  n1 : 1 ≤ L.n
  n2 : L.n ≤ 1024
  m2 : L.m ≤ 1024
  rowT : ∃ cs, Blk w L.CH 33 cs ∧ ∀ i, i < L.n → cs[i]? = some (.pointer (some ⟨L.CH + 1 + i, 0, none⟩))
  eb : ∃ cs, Blk w L.EB 56 cs ∧ cs.size = 27
  q : ∃ cs, Blk w L.QB 77 cs ∧ cs[4]? = some (.map (some L.MB))
  map : MapIs Yba.prog 9 (.pointer none) w L.MB L.N L.f L.hf
  ids : ∀ j, j < L.m → (L.s j).size ≤ maxLen ∧ L.c j < L.n ∧ ∃ b cs, L.f (L.s j) = .pointer (some ⟨b, 0, none⟩) ∧ b ≠ L.EB ∧ Blk w b 56 cs ∧ cs[24]? = some (.pointer (some ⟨L.CH + 1 + L.c j, 0, none⟩))
  av : w.ownsRow L.B 9 1 av L.m ((List.range L.m).map fun j => .string (L.s j))
  acv : w.ownsRow L.B 3 1 acv L.m ((List.range L.m).map fun j => .int .i64 (L.c j))

/-- The chains: chain i's waiters are 'Ws i', in a row of its own at 'V i'. -/
structure Chn (L : Lay) (w : World) (V : Nat → Value) (Ws : Nat → List (Nat × Int)) : Prop where
  chain : ∀ i, i < L.n → Blk w (L.CH + 1 + i) 38 #[.slice none 0 0, V i, .string (L.g i)]
  own : ∀ i, i < L.n → w.ownsRow L.B 41 2 (V i) (Ws i).length (wcells (Ws i))
  apart : ∀ i j, i < L.n → j < L.n → i ≠ j → (V i).ownBlock = none ∨ (V i).ownBlock ≠ (V j).ownBlock
  ents : ∀ i, i < L.n → ∀ p ∈ Ws i, ∃ cs, Blk w p.1 56 cs

/-- How many of the first k ids lie on a chain that is deferred, impossible. -/
def cD (L : Lay) : Nat → Int
  | 0 => 0
  | k + 1 => addD (L.g (L.c k)) (cD L k)
def cI (L : Lay) : Nat → Int
  | 0 => 0
  | k + 1 => addI (L.g (L.c k)) (cI L k)

theorem cD_bd (L : Lay) : ∀ k : Nat, 0 ≤ cD L k ∧ cD L k ≤ k
  | 0 => by simp [cD]
  | k + 1 => by
    have := cD_bd L k
    simp only [cD, addD]
    split <;> omega
theorem cI_bd (L : Lay) : ∀ k : Nat, 0 ≤ cI L k ∧ cI L k ≤ k
  | 0 => by simp [cI]
  | k + 1 => by
    have := cI_bd L k
    simp only [cI, addI]
    split <;> omega

theorem zero24 (w : World) : (zeroValue 24).run Yba.prog w = .ok (.pointer none) w := by kernel_rfl

theorem range_get {m k : Nat} (F : Nat → Value) (h : k < m) : ((List.range m).map F)[k]? = some (F k) := by simp [h]

/-- An owned row with an element: where it lies. -/
theorem owns_some {w : World} {B : Nat} {e : TypeId} {sz : Nat} {v : Value} {n : Nat} {xs : List Value} (h : w.ownsRow B e sz v n xs) :
    (v = .slice none 0 0 ∧ n = 0) ∨ ∃ g cap cur, v = .slice (some ⟨g, 0, none⟩) n cap ∧ B ≤ g ∧ Blk w g e cur ∧ n ≤ cap ∧ cap ≤ maxLen ∧ cur.size = cap * sz ∧ ∀ (j : Nat) (u : Value), xs[j]? = some u → cur[j]? = some u := by
  rcases h.2 with h0 | ⟨g, cap, cur, rfl, hb, hg, hn, hm, hs, ht⟩
  · exact .inl h0
  · refine .inr ⟨g, cap, cur, rfl, hb, hg, hn, hm, hs, fun j u hj => ?_⟩
    rw [← ht] at hj
    rw [List.getElem?_take] at hj
    split at hj
    · simpa using hj
    · cases hj

/-- An owned row, seen as a slice: each element's cell. -/
theorem owns_view {w : World} {B : Nat} {e : TypeId} {sz : Nat} {v : Value} {n : Nat} {xs : List Value} (h : w.ownsRow B e sz v n xs) :
    ∃ A cap, v = .slice A n cap ∧ n ≤ cap ∧ cap ≤ maxLen ∧ ∀ (j : Nat) (u : Value), xs[j]? = some u → ∃ g cur, A = some ⟨g, 0, none⟩ ∧ B ≤ g ∧ Blk w g e cur ∧ cur[j]? = some u := by
  rcases owns_some h with ⟨rfl, rfl⟩ | ⟨g, cap, cur, rfl, hb, hg, hn, hm, hs, ht⟩
  · refine ⟨none, 0, rfl, Nat.le_refl _, Nat.zero_le _, fun j u hj => ?_⟩
    have := h.1
    simp at this
    subst this
    simp at hj
  · exact ⟨_, cap, rfl, hn, hm, fun j u hj => ⟨g, cur, rfl, hb, hg, ht j u hj⟩⟩

theorem below_blk {B : Nat} {w w' : World} {b : Nat} {t : TypeId} {cs : Array Value} (h : Below B w w') (hb : Blk w b t cs) (hlt : b < B) : Blk w' b t cs := by
  unfold Blk
  rw [h.block b hlt]
  exact hb

set_option maxRecDepth 100000 in
set_option maxHeartbeats 1000000 in
/-- waitsOf: the counts of the ids' chains, by status. -/
theorem waitsOf_any (L : Lay) (av acv : Value) (V : Nat → Value) (Ws : Nat → List (Nat × Int)) (w : World) (hb : Base L av acv w) (hc : Chn L w V Ws) :
    Calls Yba.prog 10 #[.pointer (some ⟨L.QB, 0, none⟩), av] w fun e w' => e = .returned (.agg #[.int .i64 (cD L L.m), .int .i64 (cI L L.m)]) ∧ Below w.heap.size w w' := by
  have hm := hb.m2
  obtain ⟨A, cap, rfl, _, _, hview⟩ := owns_view hb.av
  go_enter Yba.func10, Yba.ntmps10
  go_wp2
  go_loopw [10] (fun i wr => ∃ k : Nat, k ≤ L.m ∧ i = .int .i64 k ∧ Blk wr w.heap.size 44 #[.int .i64 0, .int .i64 0] ∧ Blk wr (w.heap.size + 1) 44 #[.int .i64 (cD L k), .int .i64 (cI L k)] ∧ Below w.heap.size w wr) (fun i _ => L.m - (intOf i).toNat)
  case atStart =>
    refine ⟨0, Nat.zero_le _, rfl, (blk_new w 44 _).alloc _, ?_, ((Below.refl _ _).alloc (Nat.le_refl _) _).alloc (by simp) _⟩
    have := blk_new (w.alloc (.cells #[.int .i64 0, .int .i64 0] 44)) 44 #[.int .i64 0, .int .i64 0]
    simpa [cD, cI] using this
  case round =>
    obtain ⟨k, hk, rfl, hr, hw, hB⟩ := hrel
    by_cases hlt : k < L.m
    · obtain ⟨ga, cur, rfl, hgB, hblk, hcur⟩ := hview k _ (range_get _ hlt)
      clear hview
      obtain ⟨hs, hcn, eb, ecs, hf, _, heb, h24⟩ := hb.ids k hlt
      obtain ⟨qcs, hq, hq4⟩ := hb.q
      have hch := hc.chain (L.c k) hcn
      have hmap := hb.map
      have r1 := ((below_blk hB hblk hblk.lt).cell k).trans hcur
      have r2 := ((below_blk hB hq hq.lt).cell 4).trans hq4
      have r3 := (hmap.same (w' := wr) (hB.block _ hmap.lt)).look (t := 60) (e := 24) Yba.underlying9 Yba.underlying60 (zero24 wr) hs
      rw [hf] at r3
      have r4 := ((below_blk hB heb heb.lt).cell 24).trans h24
      have r5 := ((below_blk hB hch hch.lt).cell 2)
      simp at r5
      have d1 := cD_bd L k
      have d2 := cI_bd L k
      have HD : Hid (cD L (k + 1) = addD (L.g (L.c k)) (cD L k)) := rfl
      have HI : Hid (cI L (k + 1) = addI (L.g (L.c k)) (cI L k)) := rfl
      clear hch hmap hq heb hblk hf hs hcn h24 hq4 hcur
      go_wp2_with fail
      refine (add_any (w.heap.size + 1) (cD L k) (cI L k) (L.g (L.c k)) wr hw (by omega) (by omega) (by omega) (by omega)).mono ?_
      rintro e w1 ⟨rfl, hw1, hg1⟩
      have hr1 := hr.grown hg1 (by simp)
      have hB1 : Below w.heap.size w w1 := hB.grown hg1 hB.size (fun j hj => by cases hj; omega)
      rw [← HD.out, ← HI.out] at hw1
      clear r1 r2 r3 r4 r5 hg1 hw hr hB HD HI d1 d2
      go_wp2_with fail
      go_roundw
      case rel => exact ⟨k + 1, by omega, by go_num, hr1, hw1, hB1⟩
      case measure => simp [intOf]; omega
    · have hkm : k = L.m := by omega
      subst hkm
      have c0 := hw.cell 0
      have c1 := hw.cell 1
      have e0 := hr.cell 0
      have e1 := hr.cell 1
      have f0 := hr.frozen 0
      have f1 := hr.frozen 1
      simp at c0 c1 e0 e1
      clear hview
      go_wp2_with fail
      exact bodyPost_ret (v := .agg #[.int .i64 (cD L L.m), .int .i64 (cI L L.m)]) (by simp [results, Yba.results10, go_sem, e0, e1]) rfl ⟨rfl, (hB.setCell (by simp) _).setCell (by simp) _⟩

end Go.Proofs.Ybulkcfno
