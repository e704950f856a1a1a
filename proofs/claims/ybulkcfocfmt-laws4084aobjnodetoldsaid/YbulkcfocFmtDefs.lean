/-
  zzs4084adefs (8).
-/
import Derived.Test.YbulkcfocFmtBuild
import Derived.Deep.RegionHeld3
import Derived.Deep.AppendLies
namespace Go.Proofs.YbulkcfocFmt
open Go Go.RowKit Go.Maps

theorem info51 : (Ybaf.prog.info? 51).map (fun i => (i.zero, i.size, i.bytes)) = some (some (.pointer none), 1, 8) := by kernel_rfl

theorem below_blk {B : Nat} {w w' : World} {b : Nat} {t : TypeId} {cs : Array Value} (h : Below B w w') (hb : Blk w b t cs) (hlt : b < B) : Blk w' b t cs := by
  unfold Blk
  rw [h.block b hlt]
  exact hb

theorem one_ptr (x : Option Addr) : ∀ u ∈ [Value.pointer x], u.oneCell' = true := by
  intro u hu
  simp at hu
  subst hu
  rfl

theorem owns_below {w w' : World} {base : Nat} {e : TypeId} {size n : Nat} {v : Value} {xs : List Value} (ho : w.ownsRow base e size v n xs) (hb : Below w.heap.size w w') : w'.ownsRow base e size v n xs :=
  Same.owns (T := fun _ => true) (fun _ _ _ _ h => below_blk hb h h.lt) rfl ho

theorem news3 (w : World) (o1 o2 : Obj) (x : Value) (t : TypeId) : ∀ j u, [x][j]? = some u → (((w.alloc o1).alloc o2).alloc (.cells #[x] t)).cell? ((⟨w.heap.size + 1 + 1, 0, none⟩ : Addr).add j) = some u := by
  have := World.news_of_block (heap_alloc_new ((w.alloc o1).alloc o2) (.cells #[x] t))
  simpa using this

def litCells (v : Value) : Array Value := #[.string ⟨#[]⟩, .int .i64 0, v, .bool false, .bool false]

/-- The definitions that are made so far. -/
structure Lits (w0 w : World) (D : Nat → Df) (sl : Value) (k : Nat) (xs : List Value) : Prop where
  below : Below w0.heap.size w0 w
  own : w.ownsRow w0.heap.size 51 1 sl k xs
  len : xs.length = k
  lit : ∀ i, i < k → ∃ p q v, xs[i]? = some (.pointer (some ⟨p, 0, none⟩)) ∧ Blk w p 55 #[.int .i64 (D i).rank, .iface 71 (.pointer (some ⟨q, 0, none⟩))] ∧ Blk w q 74 (litCells v) ∧ Built w (D i) v

theorem Lits.step {w0 wr w2 w5 : World} {D : Nat → Df} {sl v' v : Value} {k : Nat} {xs : List Value} (h : Lits w0 wr D sl k xs) (hb2 : Below wr.heap.size wr w2) (hbt : Built w2 (D k) v)
    (hown5 : w5.ownsRow w0.heap.size 51 1 v' (k + 1) (xs ++ [.pointer (some ⟨w2.heap.size + 1, 0, none⟩)]))
    (hg5 : (((w2.alloc (.cells #[.string ⟨#[]⟩, .int .i64 0, v, .bool false, .bool false] 74)).alloc (.cells #[.int .i64 (D k).rank, .iface 71 (.pointer (some ⟨w2.heap.size, 0, none⟩))] 55)).alloc (.cells #[.pointer (some ⟨w2.heap.size + 1, 0, none⟩)] 51)).grownBy w5 sl.ownBlock) :
    Lits w0 w5 D v' (k + 1) (xs ++ [.pointer (some ⟨w2.heap.size + 1, 0, none⟩)]) := by
  have hl := h.below.size
  have hl2 := hb2.size
  have b2 : Below w0.heap.size w0 w2 := h.below.trans (hb2.mono hl)
  have hw : w2.heap.size + 1 = (w2.alloc (.cells #[.string ⟨#[]⟩, .int .i64 0, v, .bool false, .bool false] 74)).heap.size := by simp
  have n1 : Blk ((w2.alloc (.cells #[.string ⟨#[]⟩, .int .i64 0, v, .bool false, .bool false] 74)).alloc (.cells #[.int .i64 (D k).rank, .iface 71 (.pointer (some ⟨w2.heap.size, 0, none⟩))] 55)) w2.heap.size 74 (litCells v) := (blk_new w2 74 (litCells v)).alloc _
  have n2 : Blk ((w2.alloc (.cells #[.string ⟨#[]⟩, .int .i64 0, v, .bool false, .bool false] 74)).alloc (.cells #[.int .i64 (D k).rank, .iface 71 (.pointer (some ⟨w2.heap.size, 0, none⟩))] 55)) (w2.heap.size + 1) 55 #[.int .i64 (D k).rank, .iface 71 (.pointer (some ⟨w2.heap.size, 0, none⟩))] := by
    rw [hw]
    exact blk_new _ 55 _
  have ho := (((owns_below h.own hb2).alloc (.cells #[.string ⟨#[]⟩, .int .i64 0, v, .bool false, .bool false] 74)).alloc (.cells #[.int .i64 (D k).rank, .iface 71 (.pointer (some ⟨w2.heap.size, 0, none⟩))] 55)).alloc (.cells #[.pointer (some ⟨w2.heap.size + 1, 0, none⟩)] 51)
  have s5 : Same (fun t => t != 51) _ w5 := same_append ho hg5 (by rfl)
  have m5 : MSame _ w5 := MSame.append ho hg5
  have m2 : MSame w2 (((w2.alloc (.cells #[.string ⟨#[]⟩, .int .i64 0, v, .bool false, .bool false] 74)).alloc (.cells #[.int .i64 (D k).rank, .iface 71 (.pointer (some ⟨w2.heap.size, 0, none⟩))] 55)).alloc (.cells #[.pointer (some ⟨w2.heap.size + 1, 0, none⟩)] 51)) := MSame.below ((((Below.refl _ _).alloc (Nat.le_refl _) _).alloc (by simp) _).alloc (by simp; omega) _)
  refine ⟨(((b2.alloc (by omega) _).alloc (by simp; omega) _).alloc (by simp; omega) _).grown hg5 (by simp; omega) (fun k hk => (h.own.lt k hk).1), hown5, by simp [h.len], fun i hi => ?_⟩
  by_cases e : i = k
  · subst e
    exact ⟨_, _, v, by rw [List.getElem?_append_right (by rw [h.len]; exact Nat.le_refl _)]; simp [h.len], s5 _ _ _ rfl (n2.alloc _), s5 _ _ _ rfl (n1.alloc _), hbt.msame (m2.trans m5)⟩
  · obtain ⟨p, q, u, hx, hp, hq, hu⟩ := h.lit i (by omega)
    have hp2 := below_blk hb2 hp hp.lt
    have hq2 := below_blk hb2 hq hq.lt
    exact ⟨p, q, u, by rw [List.getElem?_append_left (by rw [h.len]; omega)]; exact hx, s5 _ _ _ rfl (((hp2.alloc _).alloc _).alloc _), s5 _ _ _ rfl (((hq2.alloc _).alloc _).alloc _), hu.msame ((MSame.below hb2).trans (m2.trans m5))⟩

theorem owns_view {w : World} {B : Nat} {e : TypeId} {v : Value} {n : Nat} {xs : List Value} (h : w.ownsRow B e 1 v n xs) : ∃ A cap, v = .slice A n cap ∧ n ≤ cap ∧ cap ≤ maxLen := by
  rcases h.2 with ⟨rfl, rfl⟩ | ⟨g, cap, cur, rfl, _, _, hn, hm, _⟩
  · exact ⟨none, 0, rfl, Nat.le_refl _, Nat.zero_le _⟩
  · exact ⟨_, cap, rfl, hn, hm⟩

theorem Built.iface {w : World} {d : Df} {v : Value} (h : Built w d v) : ∃ t u, v = .iface t u := by
  cases h with
  | lit h => exact ⟨_, _, rfl⟩
  | flat h b m => exact ⟨_, _, rfl⟩
  | nest h b m => exact ⟨_, _, rfl⟩

set_option maxRecDepth 100000 in
set_option maxHeartbeats 2000000 in
theorem defs_any (A : Option Addr) (n cap B : Nat) (D : Nat → Df) (w : World) (h : Dfs w B A n D) (hB : B ≤ w.heap.size) (hn : n ≤ 256) (hk : ∀ j, j < n → (D j).kn ≤ 256) :
    Calls Ybaf.prog 8 #[.slice A n cap] w fun e w' => ∃ sl xs, e = .returned sl ∧ Lits w w' D sl n xs := by
  obtain ⟨i51, hi51, z51a, z51b, z51c⟩ := info_parts info51
  go_enter Ybaf.func8, Ybaf.ntmps8
  go_wp2_with (at_make; refine wpList_make_own _ rfl _ _ 38 rfl w.heap.size 51 i51 (.pointer none) 1 Ybaf.underlying38 hi51 z51a z51b .i64 .i64 _ n rfl rfl rfl (by rw [z51c]; omega) (by unfold maxLen; omega) (by simp) ?_)
  intro w1 hown1 hg1
  have h0 : Lits w w1 D (.slice (some ⟨w.heap.size, 0, none⟩) 0 n) 0 [] := ⟨(Below.refl _ _).grown hg1 (Nat.le_refl _) (fun k hk => by cases hk), hown1, rfl, fun i hi => absurd hi (Nat.not_lt_zero _)⟩
  clear hown1 hg1
  go_wp2_with fail
  go_loopw [3, 4] (fun sl i wr => ∃ (k : Nat) (xs : List Value), k ≤ n ∧ i = .int .i64 k ∧ Lits w wr D sl k xs) (fun _ i _ => n - (intOf i).toNat)
  case atStart => exact ⟨0, [], Nat.zero_le _, rfl, h0⟩
  case round =>
    clear h0
    obtain ⟨k, xs, hkn, rfl, hI⟩ := hrel
    obtain ⟨A', cap', rfl, _, _⟩ := owns_view hI.own
    by_cases hlt : k < n
    · obtain ⟨b, o, rfl, hbl, hrow⟩ := h.row k hlt
      have hrr : ∀ w', Below w.heap.size w w' → ∀ i, i < 4 → w'.cell? ⟨b, o + k * 4 + i, none⟩ = (D k).cells[i]? := fun w' hb' i hi => (hb'.cell (p := ⟨b, o + k * 4 + i, none⟩) (by show b < w.heap.size; omega)).trans (hrow i hi)
      have hSS : ∀ w', Below w.heap.size w w' → (w'.cell? ⟨b, o + k * 4, none⟩ = some (.int .i64 (D k).rank) ∧ w'.cell? ⟨b, o + k * 4 + 1, none⟩ = some (.int .u8 (D k).kind) ∧ w'.cell? ⟨b, o + k * 4 + 2, none⟩ = some (.slice (D k).kA (D k).kn (D k).kc) ∧ w'.cell? ⟨b, o + k * 4 + 3, none⟩ = some (.slice (D k).vA (D k).vn (D k).vc)) ∧ Below w.heap.size w w' := fun w' hb' =>
        ⟨⟨hrr w' hb' 0 (by omega), hrr w' hb' 1 (by omega), hrr w' hb' 2 (by omega), hrr w' hb' 3 (by omega)⟩, hb'⟩
      have hd : Below w.heap.size w wr.drew := hI.below.drew
      have hsz := hI.below.size
      have hbuild := build_any (D k) B wr.drew ((h.ok k hlt).below hd hB) (by show B ≤ wr.heap.size; omega) (hk k hlt)
      have i0 : (0 : Int) ≤ (k : Int) := Int.natCast_nonneg _
      have i1 : (k : Int) < (n : Int) := by omega
      unfold Df.cells at hbuild
      clear hrow hrr h hk
      go_wp2_with fail
      go_region_held3 (fun w' => (w'.cell? ⟨b, o + k * 4, none⟩ = some (.int .i64 (D k).rank) ∧ w'.cell? ⟨b, o + k * 4 + 1, none⟩ = some (.int .u8 (D k).kind) ∧ w'.cell? ⟨b, o + k * 4 + 2, none⟩ = some (.slice (D k).kA (D k).kn (D k).kc) ∧ w'.cell? ⟨b, o + k * 4 + 3, none⟩ = some (.slice (D k).vA (D k).vn (D k).vc)) ∧ Below w.heap.size w w')
        (first | exact hSS _ hd | exact hSS _ hB2 | exact hSS _ (hB2.alloc (by omega) _) | exact hSS _ ((hB2.alloc (by omega) _).alloc (by simp; omega) _) | exact hSS _ (((hB2.alloc (by omega) _).alloc (by simp; omega) _).alloc (by simp; omega) _) | exact hSS _ hB5 | fail)
        (first
          | (go_at_call 14; refine hbuild.mono ?_; rintro e w2 ⟨v, rfl, hbt, hb2⟩; obtain ⟨t, u, rfl⟩ := hbt.iface; have hb2' : Below wr.heap.size wr w2 := ((Below.refl _ _).drew).trans hb2; have hB2 : Below w.heap.size w w2 := hI.below.trans (hb2'.mono hsz); have hs2 := hB2.size)
          | (refine step_append_lies _ (by rfl) _ _ _ (by rfl) w.heap.size 51 i51 (.pointer none) 1 8 Ybaf.underlying38 hi51 z51a z51b z51c rfl (by decide) (.slice A' k cap') k xs (by rfl) ((((owns_below hI.own hb2').alloc _).alloc _).alloc _) ⟨w2.heap.size + 1 + 1, 0, none⟩ 1 1 [.pointer (some ⟨w2.heap.size + 1, 0, none⟩)] (by rfl) rfl (news3 _ _ _ _ _) (one_ptr _) (by decide) (by unfold maxLen; omega) (by omega) (by simp; omega) (w2.heap.size + 1 + 1 + 1) (by simp) ?_
             intro g cap5 w5 hown5 hg5 hat5 hlt5
             have hI5 := hI.step hb2' hbt hown5 hg5
             have hB5 := hI5.below)
          | fail)
      all_goals go_wp2_with fail
      all_goals go_roundw
      case rel => exact ⟨k + 1, _, by omega, by go_num, hI5⟩
      case measure => simp [intOf]; omega
    · obtain rfl : n = k := by omega
      go_wp2_with fail
      go_ret
      exact ⟨_, xs, rfl, hI⟩
end Go.Proofs.YbulkcfocFmt
