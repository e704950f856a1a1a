/-
  What one append to a chain's waiters, and one count raised at the last waiter, make of the chains.
-/
import Derived.Test.YbulkcfnoState
import Derived.Test.YbulkcfnoPlain
namespace Go.Proofs.Ybulkcfno
open Go Go.RowKit

def upd {α : Type} (F : Nat → α) (i : Nat) (x : α) : Nat → α := fun j => if j = i then x else F j
theorem upd_same {α : Type} (F : Nat → α) (i : Nat) (x : α) : upd F i x i = x := by simp [upd]
theorem upd_other {α : Type} (F : Nat → α) {i j : Nat} (x : α) (h : j ≠ i) : upd F i x j = F j := by simp [upd, h]

theorem WsAt_succ (E : Nat) (c : Nat → Nat) (Ws : Nat → List (Nat × Int)) (k : Nat) : WsAt E c Ws (k + 1) = upd (WsAt E c Ws k) (c k) (bump E (WsAt E c Ws k (c k))) := by
  funext i
  simp only [WsAt, upd]
  split
  · rename_i h; rw [h]
  · rfl

/-- Types that neither step writes. -/
def keepT (t : TypeId) : Bool := t != 38 && t != 41

/-- Rows of waiters that are no chain's. -/
def Foreign (n : Nat) (V : Nat → Value) (b : Nat) : Prop := ∀ i, i < n → (V i).ownBlock ≠ some b

structure Stepped (L : Lay) (w w' : World) (V V' : Nat → Value) : Prop where
  below : Below L.B w w'
  same : Same keepT w w'
  snap : ∀ b cs, Blk w b 41 cs → Foreign L.n V b → Blk w' b 41 cs ∧ Foreign L.n V' b
  maps : ∀ b, (∀ t cs, ¬ Blk w b t cs) → b < w.heap.size → w'.heap[b]? = w.heap[b]?

theorem Stepped.refl (L : Lay) (w : World) (V : Nat → Value) : Stepped L w w V V :=
  ⟨Below.refl _ _, Same.refl _ _, fun _ _ h f => ⟨h, f⟩, fun _ _ _ => rfl⟩

theorem Chn.kept {L : Lay} {w w' : World} {V : Nat → Value} {Ws : Nat → List (Nat × Int)} (hc : Chn L w V Ws) {T : TypeId → Bool} (hs : Same T w w') (h38 : T 38 = true) (h41 : T 41 = true) (h56 : ∀ b cs, Blk w b 56 cs → ∃ cs', Blk w' b 56 cs') : Chn L w' V Ws :=
  ⟨fun i hi => hs _ _ _ h38 (hc.chain i hi), fun i hi => hs.owns h41 (hc.own i hi), hc.apart, fun i hi p hp => by obtain ⟨cs, h⟩ := hc.ents i hi p hp; exact h56 _ _ h⟩

theorem Chn.alloc {L : Lay} {w : World} {V : Nat → Value} {Ws : Nat → List (Nat × Int)} (hc : Chn L w V Ws) (o : Obj) : Chn L (w.alloc o) V Ws :=
  hc.kept (T := fun _ => true) (Same.alloc _ _ _) rfl rfl (fun _ cs h => ⟨cs, h.alloc o⟩)

/-- The append of one waiter to chain i. -/
theorem Chn.append {L : Lay} {w w1 : World} {V : Nat → Value} {Ws : Nat → List (Nat × Int)} (hc : Chn L w V Ws) {i : Nat} (hi : i < L.n) (b : Nat) (x : Int) (hp : ∃ cs, Blk w b 56 cs)
    (hB : L.B ≤ w.heap.size) {v' : Value} (hCH : L.B ≤ L.CH)
    (hown : w1.ownsRow L.B 41 2 v' ((Ws i).length + 1) (wcells (Ws i) ++ [.pointer (some ⟨b, 0, none⟩), .int .i64 x]))
    (hg : (w.alloc (.cells #[.pointer (some ⟨b, 0, none⟩), .int .i64 x] 41)).grownBy w1 (V i).ownBlock)
    (hat : v'.ownBlock = (V i).ownBlock ∨ v'.ownBlock = some (w.heap.size + 1)) :
    Chn L (w1.setCell ⟨L.CH + 1 + i, 1, none⟩ v') (upd V i v') (upd Ws i (Ws i ++ [(b, x)])) ∧ Stepped L w (w1.setCell ⟨L.CH + 1 + i, 1, none⟩ v') V (upd V i v') := by
  have hX := Same.alloc (fun _ => true) w (.cells #[.pointer (some ⟨b, 0, none⟩), .int .i64 x] 41)
  have hc0 := hc.alloc (.cells #[.pointer (some ⟨b, 0, none⟩), .int .i64 x] 41)
  generalize hw0 : w.alloc (.cells #[.pointer (some ⟨b, 0, none⟩), .int .i64 x] 41) = w0 at *
  have hs0 : w0.heap.size = w.heap.size + 1 := by rw [← hw0]; simp
  -- every block of another type than 41 stands
  have s1 : Same (fun t => t != 41) w0 w1 := same_append (hc0.own i hi) hg (by rfl)
  have ci := s1 _ _ _ (by rfl) (hc0.chain i hi)
  have s2 : Same keepT w1 (w1.setCell ⟨L.CH + 1 + i, 1, none⟩ v') := Same.setCell ci (by rfl) _ _
  have s12 : Same keepT w0 (w1.setCell ⟨L.CH + 1 + i, 1, none⟩ v') := (s1.mono (fun t h => by simp [keepT] at h ⊢; exact h.2)).trans s2
  -- rows of type 41 but chain i's
  have row : ∀ r cs, Blk w0 r 41 cs → (V i).ownBlock ≠ some r → Blk (w1.setCell ⟨L.CH + 1 + i, 1, none⟩ v') r 41 cs := fun r cs hr hne =>
    (hr.grown hg (fun e => hne e.symm)).setOther (ci.ne (hr.grown hg (fun e => hne e.symm)) (by decide)) _ _
  -- the new block is no chain's row
  have fresh : ∀ j, j < L.n → (V j).ownBlock ≠ some (w.heap.size + 1) := fun j hj e => by
    have := ((hc0.own j hj).lt _ e).2
    omega
  have newNe : ∀ r, (V i).ownBlock ≠ some r → r < w0.heap.size → v'.ownBlock ≠ some r := fun r h1 h2 e => by
    rcases hat with h | h
    · exact h1 (h ▸ e)
    · rw [h] at e
      injection e with e
      omega
  refine ⟨⟨fun j hj => ?_, fun j hj => ?_, fun j k hj hk hjk => ?_, fun j hj p hpj => ?_⟩, ⟨?_, ?_, ?_, ?_⟩⟩
  · by_cases hji : j = i
    · subst hji
      rw [upd_same]
      have := ci.set 1 v'
      simpa using this
    · rw [upd_other _ _ hji]
      have := s1 _ _ _ (by rfl) (hc0.chain j hj)
      exact this.setOther (by omega) _ _
  · by_cases hji : j = i
    · subst hji
      rw [upd_same, upd_same]
      have h2 : (w1.setCell ⟨L.CH + 1 + j, 1, none⟩ v').ownsRow L.B 41 2 v' ((Ws j).length + 1) (wcells (Ws j) ++ [.pointer (some ⟨b, 0, none⟩), .int .i64 x]) :=
        Same.owns (T := fun t => t != 38) (Same.setCell ci (by rfl) _ _) (by rfl) hown
      simpa [wcells_append, wcells] using h2
    · rw [upd_other _ _ hji, upd_other _ _ hji]
      have ho := hc0.own j hj
      refine ⟨ho.1, ?_⟩
      rcases ho.2 with h | ⟨g, cap, cur, hv, hb, hgj, r⟩
      · exact .inl h
      · refine .inr ⟨g, cap, cur, hv, hb, row g cur hgj ?_, r⟩
        have hbk : (V j).ownBlock = some g := by rw [hv]; rfl
        rcases hc.apart j i hj hi hji with h | h
        · rw [h] at hbk; cases hbk
        · rw [← hbk]; exact Ne.symm h
  · by_cases hji : j = i
    · subst hji
      have hkj : k ≠ j := Ne.symm hjk
      rw [upd_same, upd_other _ _ hkj]
      rcases hat with h | h
      · rw [h]; exact hc.apart j k hj hk hjk
      · right; rw [h]; exact Ne.symm (fresh k hk)
    · rw [upd_other _ _ hji]
      by_cases hki : k = i
      · subst hki
        rw [upd_same]
        rcases hat with h | h
        · rw [h]; exact hc.apart j k hj hk hjk
        · right; rw [h]; exact fresh j hj
      · rw [upd_other _ _ hki]
        exact hc.apart j k hj hk hjk
  · have h56 : ∀ b cs, Blk w0 b 56 cs → Blk (w1.setCell ⟨L.CH + 1 + i, 1, none⟩ v') b 56 cs := fun b cs h => s12 _ _ _ (by rfl) h
    by_cases hji : j = i
    · subst hji
      rw [upd_same] at hpj
      simp at hpj
      rcases hpj with h | h
      · obtain ⟨cs, hcs⟩ := hc0.ents j hj p h
        exact ⟨cs, h56 _ _ hcs⟩
      · obtain ⟨cs, hcs⟩ := hp
        subst h
        exact ⟨cs, h56 _ _ (hX _ _ _ rfl hcs)⟩
    · rw [upd_other _ _ hji] at hpj
      obtain ⟨cs, hcs⟩ := hc0.ents j hj p hpj
      exact ⟨cs, h56 _ _ hcs⟩
  · have b0 : Below L.B w w0 := by rw [← hw0]; exact (Below.refl _ _).alloc hB _
    have b1 : Below L.B w w1 := b0.grown hg (by omega) (fun k hk => ((hc0.own i hi).lt k hk).1)
    exact b1.setCell (by show L.B ≤ L.CH + 1 + i; omega) _
  · exact (hX.mono (fun _ _ => rfl)).trans s12
  · intro r cs hr hf
    have hr0 := hX _ _ _ rfl hr
    refine ⟨row r cs hr0 (hf i hi), fun j hj => ?_⟩
    by_cases hji : j = i
    · subst hji
      rw [upd_same]
      exact newNe r (hf j hj) hr0.lt
    · rw [upd_other _ _ hji]
      exact hf j hj
  · intro r hr hlt
    have e1 : w1.heap[r]? = w0.heap[r]? := hg.block r (by omega) (fun e => by
      obtain ⟨cur, hcur⟩ := owns_type (hc.own i hi) r e.symm
      exact hr _ _ hcur)
    have e2 : w0.heap[r]? = w.heap[r]? := by rw [← hw0]; exact Below.heap_alloc _ _ _ hlt
    rw [Below.heap_setCell _ _ _ _ (fun e => by subst e; exact hr _ _ (hc.chain i hi)), e1, e2]

/-- The count raised at chain i's last waiter. -/
theorem Chn.inc {L : Lay} {w : World} {V : Nat → Value} {Ws : Nat → List (Nat × Int)} (hc : Chn L w V Ws) {i : Nat} (hi : i < L.n) {a : List (Nat × Int)} {b : Nat} {x : Int} (hWs : Ws i = a ++ [(b, x)])
    {g cap : Nat} (hv : V i = .slice (some ⟨g, 0, none⟩) (Ws i).length cap) (y : Int) :
    Chn L (w.setCell ⟨g, a.length * 2 + 1, none⟩ (.int .i64 y)) V (upd Ws i (a ++ [(b, y)])) ∧ Stepped L w (w.setCell ⟨g, a.length * 2 + 1, none⟩ (.int .i64 y)) V V := by
  have ho := hc.own i hi
  rw [hv] at ho
  have hbk : (V i).ownBlock = some g := by rw [hv]; rfl
  obtain ⟨cur, hblk⟩ := owns_type (hc.own i hi) g hbk
  have s1 : Same (fun t => t != 41) w (w.setCell ⟨g, a.length * 2 + 1, none⟩ (.int .i64 y)) := Same.setCell hblk (by rfl) _ _
  have other : ∀ r cs, Blk w r 41 cs → r ≠ g → Blk (w.setCell ⟨g, a.length * 2 + 1, none⟩ (.int .i64 y)) r 41 cs := fun r cs h hne => h.setOther (Ne.symm hne) _ _
  refine ⟨⟨fun j hj => s1 _ _ _ (by rfl) (hc.chain j hj), fun j hj => ?_, hc.apart, fun j hj p hpj => ?_⟩, ⟨?_, ?_, ?_, ?_⟩⟩
  · by_cases hji : j = i
    · subst hji
      rw [upd_same]
      have := (ho.stored (a.length * 2 + 1) (.int .i64 y)).1
      rw [← hv] at this
      have e1 : (wcells (Ws j)).set (a.length * 2 + 1) (.int .i64 y) = wcells (a ++ [(b, y)]) := by
        rw [hWs, wcells_append, wcells_append]
        have hl := wcells_length a
        rw [List.set_append_right _ _ (by omega)]
        simp [wcells, hl]
      rw [e1] at this
      have e2 : (a ++ [(b, y)]).length = (Ws j).length := by rw [hWs]; simp
      rw [e2]
      exact this
    · rw [upd_other _ _ hji]
      have ho := hc.own j hj
      refine ⟨ho.1, ?_⟩
      rcases ho.2 with h | ⟨g', cap', cur', hv', hb', hgj, r⟩
      · exact .inl h
      · refine .inr ⟨g', cap', cur', hv', hb', other g' cur' hgj (fun e => ?_), r⟩
        have hbk' : (V j).ownBlock = some g' := by rw [hv']; rfl
        rcases hc.apart j i hj hi hji with h | h
        · rw [h] at hbk'; cases hbk'
        · apply h
          rw [hbk, hbk', e]
  · have h56 : ∀ r cs, Blk w r 56 cs → Blk (w.setCell ⟨g, a.length * 2 + 1, none⟩ (.int .i64 y)) r 56 cs := fun r cs h => s1 _ _ _ (by rfl) h
    by_cases hji : j = i
    · subst hji
      rw [upd_same] at hpj
      simp at hpj
      rcases hpj with h | h
      · obtain ⟨cs, hcs⟩ := hc.ents j hj p (by rw [hWs]; simp [h])
        exact ⟨cs, h56 _ _ hcs⟩
      · obtain ⟨cs, hcs⟩ := hc.ents j hj (b, x) (by rw [hWs]; simp)
        subst h
        exact ⟨cs, h56 _ _ hcs⟩
    · rw [upd_other _ _ hji] at hpj
      obtain ⟨cs, hcs⟩ := hc.ents j hj p hpj
      exact ⟨cs, h56 _ _ hcs⟩
  · exact (Below.refl _ _).setCell (((hc.own i hi).lt g hbk).1) _
  · exact s1.mono (fun t h => by simp [keepT] at h ⊢; exact h.2)
  · intro r cs hr hf
    exact ⟨other r cs hr (fun e => hf i hi (by rw [hbk, e])), hf⟩
  · intro r hr _
    exact Below.heap_setCell _ _ _ _ (fun e => by subst e; exact hr _ _ hblk)

/-- The case stands behind a step of a chain. -/
theorem Base.stepped {L : Lay} {av acv : Value} {w w' : World} {V V' : Nat → Value} (hb : Base L av acv w) (hs : Stepped L w w' V V') : Base L av acv w' := by
  obtain ⟨rcs, hr, hrc⟩ := hb.rowT
  obtain ⟨ecs, he, hes⟩ := hb.eb
  obtain ⟨qcs, hq, hq4⟩ := hb.q
  refine ⟨Nat.le_trans hb.size hs.below.size, hb.n1, hb.n2, hb.m2, ⟨rcs, hs.same _ _ _ rfl hr, hrc⟩, ⟨ecs, hs.same _ _ _ rfl he, hes⟩, ⟨qcs, hs.same _ _ _ rfl hq, hq4⟩, ?_, fun j hj => ?_, hs.same.owns rfl hb.av, hs.same.owns rfl hb.acv⟩
  · exact hb.map.same (hs.maps _ (fun t cs h => hb.map.noCells h) hb.map.lt)
  · obtain ⟨h1, h2, b, cs, h3, h4, h5, h6⟩ := hb.ids j hj
    exact ⟨h1, h2, b, cs, h3, h4, hs.same _ _ _ rfl h5, h6⟩

theorem Stepped.trans {L : Lay} {w w' w'' : World} {V V' V'' : Nat → Value} (h : Stepped L w w' V V') (h' : Stepped L w' w'' V' V'') : Stepped L w w'' V V'' := by
  refine ⟨h.below.trans h'.below, h.same.trans h'.same, fun b cs hb hf => ?_, fun b hn hlt => ?_⟩
  · obtain ⟨h1, h2⟩ := h.snap b cs hb hf
    exact h'.snap b cs h1 h2
  · have e := h.maps b hn hlt
    rw [h'.maps b (fun t cs hh => hn t cs (by unfold Blk at hh ⊢; rw [← e]; exact hh)) (Nat.lt_of_lt_of_le hlt h.below.size), e]

/-- A new block. -/
theorem Stepped.alloc (L : Lay) (w : World) (V : Nat → Value) (hB : L.B ≤ w.heap.size) (o : Obj) : Stepped L w (w.alloc o) V V :=
  ⟨(Below.refl _ _).alloc hB _, Same.alloc _ _ _, fun _ _ h f => ⟨h.alloc o, f⟩, fun _ _ hlt => Below.heap_alloc _ _ _ hlt⟩

/-- All old blocks as they were. -/
theorem Stepped.below' {L : Lay} {w w' : World} (V : Nat → Value) (hB : L.B ≤ w.heap.size) (h : Below w.heap.size w w') : Stepped L w w' V V :=
  ⟨h.mono hB, fun _ _ _ _ hb => below_blk h hb hb.lt, fun _ _ hb f => ⟨below_blk h hb hb.lt, f⟩, fun b _ hlt => h.block b hlt⟩
end Go.Proofs.Ybulkcfno
