/-
  The law's loop of puts: what stands behind k rounds; the plain laws on the last entry under an id.
-/
import Derived.Test.YbulkcfnoFmtSched
namespace Go.Proofs.YbulkcfnoFmt
open Go Go.RowKit Go.MuLone

/-- The rows of schedules that came in. -/
structure Scheds (w : World) (A : Option Addr) (n : Nat) (S : Nat → Sch) : Prop where
  ok : ∀ j, j < n → (S j).Ok w
  id : ∀ j, j < n → (S j).id.size ≤ maxLen
  row : ∀ j, j < n → ∃ b o, A = some ⟨b, o, none⟩ ∧ b < w.heap.size ∧ ∀ i, i < 6 → w.cell? ⟨b, o + j * 6 + i, none⟩ = (S j).cells[i]?

/-- What the map holds behind k puts. -/
def putF (S : Nat → Sch) (E : Nat → Nat) : Nat → ByteArray → Value
  | 0, _ => .pointer none
  | k + 1, u => if u = (S k).id then .pointer (some ⟨E k, 0, none⟩) else putF S E k u
def putH (S : Nat → Sch) : Nat → ByteArray → Bool
  | 0, _ => false
  | k + 1, u => if u = (S k).id then true else putH S k u

theorem putF_congr (S : Nat → Sch) {E E' : Nat → Nat} : ∀ k, (∀ j, j < k → E j = E' j) → putF S E k = putF S E' k
  | 0, _ => rfl
  | k + 1, h => by
    funext u
    simp only [putF]
    rw [h k (Nat.lt_succ_self _), putF_congr S k fun j hj => h j (Nat.lt_succ_of_lt hj)]

theorem put_found (S : Nat → Sch) (E : Nat → Nat) (u : ByteArray) (j : Nat) (hu : (S j).id = u) : ∀ n, j < n → (∀ i, j < i → i < n → (S i).id ≠ u) → putH S n u = true ∧ putF S E n u = .pointer (some ⟨E j, 0, none⟩)
  | 0, h, _ => absurd h (Nat.not_lt_zero _)
  | n + 1, h, hl => by
    by_cases e : j = n
    · subst e
      simp [putH, putF, hu]
    · have hne : u ≠ (S n).id := fun x => hl n (by omega) (by omega) x.symm
      obtain ⟨h1, h2⟩ := put_found S E u j hu n (by omega) fun i hi hn => hl i hi (by omega)
      simp [putH, putF, hne, h1, h2]

theorem put_none (S : Nat → Sch) (u : ByteArray) : ∀ n, (∀ i, i < n → (S i).id ≠ u) → putH S n u = false
  | 0, _ => rfl
  | n + 1, h => by
    have hne : u ≠ (S n).id := fun x => h n (by omega) x.symm
    simp [putH, hne, put_none S u n fun i hi => h i (by omega)]

/-- The last one under an id, or none. -/
theorem last_or (S : Nat → Sch) (u : ByteArray) : ∀ n, (∃ j, j < n ∧ (S j).id = u ∧ ∀ i, j < i → i < n → (S i).id ≠ u) ∨ ∀ i, i < n → (S i).id ≠ u
  | 0 => .inr fun i hi => absurd hi (Nat.not_lt_zero _)
  | n + 1 => by
    by_cases h : (S n).id = u
    · exact .inl ⟨n, Nat.lt_succ_self _, h, fun i h1 h2 => by omega⟩
    · rcases last_or S u n with ⟨j, hj, hu, hl⟩ | hl
      · refine .inl ⟨j, by omega, hu, fun i h1 h2 => ?_⟩
        by_cases e : i = n
        · subst e; exact h
        · exact hl i h1 (by omega)
      · refine .inr fun i hi => ?_
        by_cases e : i = n
        · subst e; exact h
        · exact hl i (by omega)

/-- What stands behind k rounds. -/
structure Inv (w wr : World) (tb mb qb cb fb sb : Nat) (fl : Bool) (p : Addr) (S : Nat → Sch) (k ko : Nat) (sl : Value) (E : Nat → Nat) : Prop where
  q : Blk wr qb 50 (qCells 0 (syncV cb fb sb) mb sl)
  c : Blk wr cb 3 #[.int .i64 0]
  f : Blk wr fb 4 #[.bool fl]
  s : Blk wr sb 52 #[.iface 73 (.pointer (some p))]
  t : Blk wr tb 27 #[.int .u64 0, .int .i64 0, .pointer none]
  m : MapIs Ybaf.prog 9 (.pointer none) wr mb k (putF S E k) (putH S k)
  e : ∀ j, j < k → Blk wr (E j) 65 (S j).entry
  own : ∃ xs, wr.ownsRow w.heap.size 56 1 sl ko xs
  below : Below w.heap.size w wr
  qn : w.heap.size ≤ qb
  mn : w.heap.size ≤ mb
  cn : w.heap.size ≤ cb

section
variable {w wr w' : World} {tb mb qb cb fb sb : Nat} {fl : Bool} {p : Addr} {S : Nat → Sch} {k ko : Nat} {sl : Value} {E : Nat → Nat}

/-- Whatever is only made beside it leaves it. -/
theorem Inv.kept (h : Inv w wr tb mb qb cb fb sb fl p S k ko sl E) (hb : Below wr.heap.size wr w') : Inv w w' tb mb qb cb fb sb fl p S k ko sl E := by
  refine ⟨below_blk hb h.q h.q.lt, below_blk hb h.c h.c.lt, below_blk hb h.f h.f.lt, below_blk hb h.s h.s.lt, below_blk hb h.t h.t.lt, h.m.same (hb.block mb h.m.lt), fun j hj => below_blk hb (h.e j hj) (h.e j hj).lt, ?_, h.below.trans (hb.mono h.below.size), h.qn, h.mn, h.cn⟩
  obtain ⟨xs, ho⟩ := h.own
  refine ⟨xs, ho.1, ?_⟩
  rcases ho.2 with hn | ⟨g, cap, cur, rfl, hg, hh, r⟩
  · exact .inl hn
  · exact .inr ⟨g, cap, cur, rfl, hg, below_blk hb hh (Blk.lt hh), r⟩

theorem owns_view {B : Nat} {e : TypeId} {v : Value} {n : Nat} {xs : List Value} (h : w.ownsRow B e 1 v n xs) : ∃ A cap, v = .slice A n cap ∧ n ≤ cap ∧ cap ≤ maxLen := by
  rcases h.2 with ⟨rfl, rfl⟩ | ⟨g, cap, cur, rfl, _, _, hn, hm, _⟩
  · exact ⟨none, 0, rfl, Nat.le_refl _, Nat.zero_le _⟩
  · exact ⟨_, cap, rfl, hn, hm⟩

/-- The put: 'q.schedules[s.ID] = e'. -/
theorem Inv.put (h : Inv w wr tb mb qb cb fb sb fl p S k ko sl E) (hk : k < 1024) (hid : (S k).id.size ≤ maxLen) {eb : Nat} (he : Blk wr eb 65 (S k).entry) :
    ∃ w4, (Instr.mapUpdate 29 (.map (some mb)) (.string (S k).id) (.pointer (some ⟨eb, 0, none⟩))).run Ybaf.prog wr.drew = .ok () w4 ∧ Inv w w4 tb mb qb cb fb sb fl p S (k + 1) ko sl (fun j => if j = k then eb else E j) := by
  have hM : MapIs Ybaf.prog 9 (.pointer none) wr.drew mb k (putF S E k) (putH S k) := h.m
  obtain ⟨w4, hrun, hM4, hg4⟩ := hM.update (t := 29) (e := 56) Ybaf.underlying9 Ybaf.underlying29 (by unfold maxLen; omega) hid (.pointer (some ⟨eb, 0, none⟩))
  have s1 : ∀ {b t cs}, Blk wr b t cs → Blk w4 b t cs := fun {b t cs} hb => Blk.grown (w := wr.drew) hb hg4 (by
    intro e
    injection e with e
    subst e
    exact hM.noCells hb)
  refine ⟨w4, hrun, ⟨s1 h.q, s1 h.c, s1 h.f, s1 h.s, s1 h.t, ?_, fun j hj => ?_, ?_, (h.below.drew).grown hg4 h.below.size (fun j hj => by cases hj; exact h.mn), h.qn, h.mn, h.cn⟩⟩
  · have e1 : putF S (fun j => if j = k then eb else E j) k = putF S E k := putF_congr S k fun j hj => if_neg (by omega)
    have e2 : putF S (fun j => if j = k then eb else E j) (k + 1) = fun u => if u = (S k).id then .pointer (some ⟨eb, 0, none⟩) else putF S E k u := by
      funext u
      simp only [putF, if_true, e1]
    rw [e2]
    exact hM4
  · by_cases e : j = k
    · subst e
      simp only [if_true]
      exact s1 he
    · simp only [if_neg e]
      exact s1 (h.e j (by omega))
  · obtain ⟨xs, ho⟩ := h.own
    refine ⟨xs, ho.1, ?_⟩
    rcases ho.2 with hn | ⟨g, cap, cur, rfl, hg, hh, r⟩
    · exact .inl hn
    · exact .inr ⟨g, cap, cur, rfl, hg, s1 hh, r⟩

/-- The append: 'q.scheduled = append(q.scheduled, e)'. -/
theorem Inv.app (h : Inv w wr tb mb qb cb fb sb fl p S k ko sl E) {o : Obj} {v' : Value} {n' : Nat} {xs : List Value} (hg : (wr.alloc o).grownBy w' sl.ownBlock) (hown : w'.ownsRow w.heap.size 56 1 v' n' xs) :
    Blk w' qb 50 (qCells 0 (syncV cb fb sb) mb sl) ∧ Inv w (w'.setCell ⟨qb, 19, none⟩ v') tb mb qb cb fb sb fl p S k n' v' E := by
  obtain ⟨ys, ho⟩ := h.own
  have s1 : ∀ {b t cs}, t ≠ 56 → Blk wr b t cs → Blk w' b t cs := fun {b t cs} ht hb => (hb.alloc o).grown hg (by
    intro e
    obtain ⟨cur, hc⟩ := owns_type ho b e.symm
    exact ht (hb.uniq hc).1)
  have hq := s1 (by decide) h.q
  have s2 : ∀ {b t cs}, t ≠ 50 → Blk w' b t cs → Blk (w'.setCell ⟨qb, 19, none⟩ v') b t cs := fun {b t cs} ht hb => hb.setOther (hq.ne hb (Ne.symm ht)) 19 v'
  have hmb : some mb ≠ sl.ownBlock := by
    intro e
    obtain ⟨cur, hc⟩ := owns_type ho mb e.symm
    exact h.m.noCells hc
  have hm' : MapIs Ybaf.prog 9 (.pointer none) w' mb k (putF S E k) (putH S k) := (h.m.same (w' := wr.alloc o) (Below.heap_alloc _ _ _ h.m.lt)).kept hg hmb
  have hbel : Below w.heap.size w w' := ((h.below).alloc h.below.size o).grown hg (by have := h.below.size; simp; omega) (fun j hj => by
    rcases ho.2 with ⟨rfl, _⟩ | ⟨g, cap, cur, rfl, hgg, _⟩
    · simp [Value.ownBlock] at hj
    · simp [Value.ownBlock] at hj
      omega)
  refine ⟨hq, hq.set 19 v', s2 (by decide) (s1 (by decide) h.c), s2 (by decide) (s1 (by decide) h.f), s2 (by decide) (s1 (by decide) h.s), s2 (by decide) (s1 (by decide) h.t), ?_, fun j hj => s2 (by decide) (s1 (by decide) (h.e j hj)), ?_, hbel.setCell h.qn v', h.qn, h.mn, h.cn⟩
  · exact hm'.same (Below.heap_setCell _ _ _ _ (show mb ≠ qb from hm'.ne hq))
  · refine ⟨xs, hown.1, ?_⟩
    rcases hown.2 with hn | ⟨g, cap, cur, rfl, hgg, hh, r⟩
    · exact .inl hn
    · exact .inr ⟨g, cap, cur, rfl, hgg, s2 (by decide) hh, r⟩
end

/-- The world in which the loop begins. -/
theorem Inv.start (w : World) (fl : Bool) (S : Nat → Sch) (msg : ByteArray) :
    Inv w (((((((w.alloc (.cells #[.bool fl] 4)).alloc (.cells #[.int .u64 0, .int .i64 0, .pointer none] 27)).alloc (.map #[] 0)).alloc
      (.cells (qCells 0 (syncV (w.heap.size + 1 + 1 + 1 + 1) w.heap.size (w.heap.size + 1 + 1 + 1 + 1 + 1 + 1)) (w.heap.size + 1 + 1) (.slice none 0 0)) 50)).alloc (.cells #[.int .i64 0] 3)).alloc (.cells #[.string msg] 75)).alloc
      (.cells #[.iface 73 (.pointer (some ⟨w.heap.size + 1 + 1 + 1 + 1 + 1, 0, none⟩))] 52))
      (w.heap.size + 1) (w.heap.size + 1 + 1) (w.heap.size + 1 + 1 + 1) (w.heap.size + 1 + 1 + 1 + 1) w.heap.size (w.heap.size + 1 + 1 + 1 + 1 + 1 + 1) fl ⟨w.heap.size + 1 + 1 + 1 + 1 + 1, 0, none⟩ S 0 0 (.slice none 0 0) (fun _ => 0) := by
  have h0 := blk_new w 4 #[.bool fl]
  have h1 := blk_new (w.alloc (.cells #[.bool fl] 4)) 27 #[.int .u64 0, .int .i64 0, .pointer none]
  have hm := mapIs_made Ybaf.prog 9 (.pointer none) ((w.alloc (.cells #[.bool fl] 4)).alloc (.cells #[.int .u64 0, .int .i64 0, .pointer none] 27))
  have h3 := blk_new (((w.alloc (.cells #[.bool fl] 4)).alloc (.cells #[.int .u64 0, .int .i64 0, .pointer none] 27)).alloc (.map #[] 0)) 50 (qCells 0 (syncV (w.heap.size + 1 + 1 + 1 + 1) w.heap.size (w.heap.size + 1 + 1 + 1 + 1 + 1 + 1)) (w.heap.size + 1 + 1) (.slice none 0 0))
  simp only [World.size_alloc] at h1 hm h3
  have al : ∀ (W : World) (b n : Nat) (f : ByteArray → Value) (h : ByteArray → Bool) (o : Obj), MapIs Ybaf.prog 9 (.pointer none) W b n f h → MapIs Ybaf.prog 9 (.pointer none) (W.alloc o) b n f h := fun W b n f h o m => m.same (Below.heap_alloc _ _ _ m.lt)
  have h4 := blk_new ((((w.alloc (.cells #[.bool fl] 4)).alloc (.cells #[.int .u64 0, .int .i64 0, .pointer none] 27)).alloc (.map #[] 0)).alloc (.cells (qCells 0 (syncV (w.heap.size + 1 + 1 + 1 + 1) w.heap.size (w.heap.size + 1 + 1 + 1 + 1 + 1 + 1)) (w.heap.size + 1 + 1) (.slice none 0 0)) 50)) 3 #[.int .i64 0]
  have h6 := blk_new ((((((w.alloc (.cells #[.bool fl] 4)).alloc (.cells #[.int .u64 0, .int .i64 0, .pointer none] 27)).alloc (.map #[] 0)).alloc (.cells (qCells 0 (syncV (w.heap.size + 1 + 1 + 1 + 1) w.heap.size (w.heap.size + 1 + 1 + 1 + 1 + 1 + 1)) (w.heap.size + 1 + 1) (.slice none 0 0)) 50)).alloc (.cells #[.int .i64 0] 3)).alloc (.cells #[.string msg] 75)) 52 #[.iface 73 (.pointer (some ⟨w.heap.size + 1 + 1 + 1 + 1 + 1, 0, none⟩))]
  simp only [World.size_alloc] at h4 h6
  refine ⟨((h3.alloc _).alloc _).alloc _, (h4.alloc _).alloc _, (((((h0.alloc _).alloc _).alloc _).alloc _).alloc _).alloc _, h6, ((((h1.alloc _).alloc _).alloc _).alloc _).alloc _, ?_, fun j hj => absurd hj (Nat.not_lt_zero _), ⟨[], World.ownsRow_nil _ _ _ _⟩, ?_, by omega, by omega, by omega⟩
  · have e1 : putF S (fun _ => 0) 0 = fun _ => .pointer none := rfl
    have e2 : putH S 0 = fun _ => false := rfl
    rw [e1, e2]
    exact al _ _ _ _ _ _ (al _ _ _ _ _ _ (al _ _ _ _ _ _ (al _ _ _ _ _ _ hm)))
  · have hz : ∀ (W : World) (o : Obj), w.heap.size ≤ W.heap.size → w.heap.size ≤ (W.alloc o).heap.size := fun W o h => by rw [World.size_alloc]; omega
    have z0 := Nat.le_refl w.heap.size
    exact (((((((Below.refl _ w).alloc z0 _).alloc (hz _ _ z0) _).alloc (hz _ _ (hz _ _ z0)) _).alloc (hz _ _ (hz _ _ (hz _ _ z0))) _).alloc (hz _ _ (hz _ _ (hz _ _ (hz _ _ z0)))) _).alloc (hz _ _ (hz _ _ (hz _ _ (hz _ _ (hz _ _ z0))))) _).alloc (hz _ _ (hz _ _ (hz _ _ (hz _ _ (hz _ _ (hz _ _ z0)))))) _

end Go.Proofs.YbulkcfnoFmt
