/-
  zzs4083abuild (5).
-/
import Derived.Test.YbulkcfnoWaitOn
import Derived.Deep.OwnRows
import Derived.Deep.CutRange
namespace Go.Proofs.Ybulkcfno
open Go Go.RowKit

/-- A slice of bytes that came in. -/
def ByteArg (w : World) (A : Option Addr) (n : Nat) (F : Nat → Int) : Prop :=
  ∀ i, i < n → (∃ b o, A = some ⟨b, o, none⟩ ∧ b < w.heap.size ∧ w.cell? ⟨b, o + i, none⟩ = some (.int .u8 (F i))) ∧ 0 ≤ F i ∧ F i ≤ 255

theorem info36 : (Yba.prog.info? 36).map (fun i => (i.zero, i.size, i.bytes)) = some (some (.string ⟨#[]⟩), 1, 16) := by kernel_rfl
theorem info33 : (Yba.prog.info? 33).map (fun i => (i.zero, i.size, i.bytes)) = some (some (.pointer none), 1, 8) := by kernel_rfl
theorem info34 : (Yba.prog.info? 34).map (fun i => (i.zero, i.size, i.bytes)) = some (some (.slice none 0 0), 1, 24) := by kernel_rfl
theorem info9 : (Yba.prog.info? 9).map (fun i => (i.zero, i.size, i.bytes)) = some (some (.string ⟨#[]⟩), 1, 16) := by kernel_rfl
theorem info3 : (Yba.prog.info? 3).map (fun i => (i.zero, i.size, i.bytes)) = some (some (.int .i64 0), 1, 8) := by kernel_rfl

def zero30 : Array Value := #[.pointer none, .pointer none, .slice none 0 0, .slice none 0 0, .slice none 0 0, .slice none 0 0]

theorem str_one (xs : List ByteArray) : ∀ u ∈ xs.map Value.string, u.oneCell' = true := by
  intro u hu
  simp at hu
  obtain ⟨x, _, rfl⟩ := hu
  rfl

theorem range_snoc (F : Nat → Value) (k : Nat) : (List.range (k + 1)).map F = (List.range k).map F ++ [F k] := by
  rw [List.range_succ, List.map_append]; rfl

theorem one_str (x : ByteArray) : ∀ u ∈ [Value.string x], u.oneCell' = true := by
  intro u hu
  simp at hu
  subst hu
  rfl
theorem one_int (x : Int) : ∀ u ∈ [Value.int .i64 x], u.oneCell' = true := by
  intro u hu
  simp at hu
  subst hu
  rfl

/-- What was there before the call stands; the result's own variable is still zero. -/
structure Ph (w wr : World) : Prop where
  below : Below w.heap.size w wr
  res : Blk wr w.heap.size 30 zero30

theorem Ph.lt {w wr : World} (h : Ph w wr) : w.heap.size < wr.heap.size := h.res.lt

theorem Ph.alloc {w wr : World} (h : Ph w wr) (o : Obj) : Ph w (wr.alloc o) := ⟨h.below.alloc (Nat.le_of_lt h.lt) o, h.res.alloc o⟩
theorem Ph.drew {w wr : World} (h : Ph w wr) : Ph w wr.drew := ⟨h.below.drew, h.res⟩
theorem Ph.set {w wr : World} (h : Ph w wr) {b i : Nat} {t : TypeId} {cs : Array Value} (hb : Blk wr b t cs) (hB : w.heap.size ≤ b) (ht : t ≠ 30) (v : Value) : Ph w (wr.setCell ⟨b, i, none⟩ v) :=
  ⟨h.below.setCell hB v, h.res.setOther (hb.ne h.res ht) _ _⟩
theorem Ph.append {w wr w' : World} (h : Ph w wr) {e : TypeId} {sz n : Nat} {v : Value} {xs : List Value} (ho : wr.ownsRow w.heap.size e sz v n xs) (he : e ≠ 30) (hg : wr.grownBy w' v.ownBlock) : Ph w w' :=
  ⟨h.below.grown hg (Nat.le_of_lt h.lt) (fun k hk => (ho.lt k hk).1), same_append (T := fun t => t != e) ho hg (by simp) _ _ _ (by simp; exact Ne.symm he) h.res⟩
theorem Ph.grown {w wr w' : World} (h : Ph w wr) (hg : wr.grownBy w' none) : Ph w w' :=
  ⟨h.below.grown hg (Nat.le_of_lt h.lt) (fun k hk => by cases hk), h.res.grown hg (by simp)⟩

/-- How many chains, and their statuses. -/
def nCh (n1 : Nat) : Nat := if n1 = 0 then 1 else n1
def gCh (n1 : Nat) (G : Nat → Int) (i : Nat) : ByteArray := if n1 = 0 then sPending else stat (G i)

/-- The chains that are made so far. -/
structure Ph2 (w : World) (CH n : Nat) (g : Nat → ByteArray) (wr : World) (k : Nat) : Prop where
  ph : Ph w wr
  ch : w.heap.size ≤ CH
  size : wr.heap.size = CH + 1 + k
  row : ∃ cs, Blk wr CH 33 cs ∧ cs.size = n ∧ ∀ j, j < k → cs[j]? = some (.pointer (some ⟨CH + 1 + j, 0, none⟩))
  chains : ∀ j, j < k → Blk wr (CH + 1 + j) 38 #[.slice none 0 0, .slice none 0 0, .string (g j)]

theorem Ph2.start {w w1 : World} (n : Nat) (g : Nat → ByteArray) (h : Ph w w1) : Ph2 w w1.heap.size n g (w1.alloc (.cells (madeCells #[.pointer none] n) 33)) 0 :=
  ⟨h.alloc _, Nat.le_of_lt h.lt, by simp, ⟨_, blk_new _ _ _, size_madeCells _ _, fun j hj => absurd hj (by omega)⟩, fun j hj => absurd hj (by omega)⟩

theorem Ph2.step {w : World} {CH n : Nat} {g : Nat → ByteArray} {wr : World} {k : Nat} (h : Ph2 w CH n g wr k) (hk : k < n) :
    Ph2 w CH n g ((wr.alloc (.cells #[.slice none 0 0, .slice none 0 0, .string (g k)] 38)).setCell ⟨CH, k, none⟩ (.pointer (some ⟨wr.heap.size, 0, none⟩))) (k + 1) := by
  obtain ⟨cs, hb, hs, hc⟩ := h.row
  have hb' := hb.alloc (.cells #[.slice none 0 0, .slice none 0 0, .string (g k)] 38)
  refine ⟨(h.ph.alloc _).set hb' h.ch (by decide) _, h.ch, by have := h.size; simp; omega, ⟨_, hb'.set k _, by simp [hs], fun j hj => ?_⟩, fun j hj => ?_⟩
  · by_cases hjk : j = k
    · subst hjk
      rw [h.size]
      simp [hs, hk]
    · rw [Array.getElem?_setIfInBounds_ne (Ne.symm hjk)]
      exact hc j (by omega)
  · by_cases hjk : j = k
    · subst hjk
      have := blk_new wr 38 #[.slice none 0 0, .slice none 0 0, .string (g j)]
      rw [h.size] at this
      exact this.setOther (by omega) _ _
    · exact ((h.chains j (by omega)).alloc _).setOther (by omega) _ _

def zero56 : Array Value := #[.string ⟨#[]⟩, .string ⟨#[]⟩, .slice none 0 0, .string ⟨#[]⟩, .string ⟨#[]⟩, .string ⟨#[]⟩, .slice none 0 0, .int .i64 0, .slice none 0 0, .int .i64 0, .pointer none, .string ⟨#[]⟩, .int .u64 0, .int .i64 0, .pointer none, .int .u64 0, .int .i64 0, .pointer none, .int .u64 0, .int .i64 0, .pointer none, .chan none, .int .u64 0, .int .i64 0, .pointer none, .int .i64 0, .int .i64 0]

/-- The chains' part of a case. -/
def layC (B n CH EB : Nat) (g : Nat → ByteArray) : Lay := { B := B, n := n, CH := CH, EB := EB, QB := 0, MB := 0, N := 0, m := 0, g := g, f := fun _ => .pointer none, hf := fun _ => false, s := fun _ => ⟨#[]⟩, c := fun _ => 0 }

/-- The chains and their waiters. -/
structure Ph3 (w : World) (CH n EB : Nat) (g : Nat → ByteArray) (wr : World) (V : Nat → Value) (Ws : Nat → List (Nat × Int)) (k : Nat) : Prop where
  ph : Ph w wr
  ch : w.heap.size ≤ CH
  eb : w.heap.size ≤ EB
  row : ∃ cs, Blk wr CH 33 cs ∧ ∀ j, j < n → cs[j]? = some (.pointer (some ⟨CH + 1 + j, 0, none⟩))
  ent : Blk wr EB 56 zero56
  chn : Chn (layC w.heap.size n CH EB g) wr V Ws
  len : ∀ i, i < n → (Ws i).length ≤ k
  cnt : ∀ i, i < n → ∀ p ∈ Ws i, 0 ≤ p.2 ∧ p.2 ≤ 3

theorem Ph3.chain {w : World} {CH n EB : Nat} {g : Nat → ByteArray} {wr : World} {V : Nat → Value} {Ws : Nat → List (Nat × Int)} {k : Nat} (h : Ph3 w CH n EB g wr V Ws k) {i : Nat} (hi : i < n) : Blk wr (CH + 1 + i) 38 #[.slice none 0 0, V i, .string (g i)] := h.chn.chain i hi
theorem Ph3.own {w : World} {CH n EB : Nat} {g : Nat → ByteArray} {wr : World} {V : Nat → Value} {Ws : Nat → List (Nat × Int)} {k : Nat} (h : Ph3 w CH n EB g wr V Ws k) {i : Nat} (hi : i < n) : wr.ownsRow w.heap.size 41 2 (V i) (Ws i).length (wcells (Ws i)) := h.chn.own i hi

theorem Ph3.start {w : World} {CH n : Nat} {g : Nat → ByteArray} {wr : World} (h : Ph2 w CH n g wr n) :
    Ph3 w CH n wr.heap.size g (wr.alloc (.cells zero56 56)) (fun _ => .slice none 0 0) (fun _ => []) 0 := by
  obtain ⟨cs, hb, _, hc⟩ := h.row
  refine ⟨h.ph.alloc _, h.ch, Nat.le_of_lt h.ph.lt, ⟨cs, hb.alloc _, hc⟩, blk_new _ _ _, ⟨fun i hi => (h.chains i hi).alloc _, fun i _ => World.ownsRow_nil _ _ _ _, fun i j _ _ _ => .inl rfl, fun i _ p hp => by simp at hp⟩, fun i _ => Nat.zero_le _, fun i _ p hp => by simp at hp⟩

theorem Ph3.alloc {w : World} {CH n EB : Nat} {g : Nat → ByteArray} {wr : World} {V : Nat → Value} {Ws : Nat → List (Nat × Int)} {k : Nat} (h : Ph3 w CH n EB g wr V Ws k) (o : Obj) : Ph3 w CH n EB g (wr.alloc o) V Ws k := by
  obtain ⟨cs, hb, hc⟩ := h.row
  exact ⟨h.ph.alloc _, h.ch, h.eb, ⟨cs, hb.alloc _, hc⟩, h.ent.alloc _, h.chn.alloc _, h.len, h.cnt⟩

/-- One waiter (b, x) more at chain i. -/
theorem Ph3.step {w : World} {CH n EB : Nat} {g : Nat → ByteArray} {wr w2 : World} {V : Nat → Value} {Ws : Nat → List (Nat × Int)} {k : Nat} (h : Ph3 w CH n EB g wr V Ws k) {i : Nat} (hi : i < n) (b : Nat) (x : Int) (hp : ∃ cs, Blk wr b 56 cs)
    (hx0 : 0 ≤ x) (hx3 : x ≤ 3) {v1 v' : Value} (HV : Hid (V i = v1)) {l : Nat} (Hl : Hid ((Ws i).length = l))
    (hown : w2.ownsRow w.heap.size 41 2 v' (l + 1) (wcells (Ws i) ++ [.pointer (some ⟨b, 0, none⟩), .int .i64 x]))
    (hg : (wr.alloc (.cells #[.pointer (some ⟨b, 0, none⟩), .int .i64 x] 41)).grownBy w2 v1.ownBlock)
    (hat : v'.ownBlock = v1.ownBlock ∨ v'.ownBlock = some (wr.heap.size + 1)) :
    (∃ cs, Blk w2 (CH + 1 + i) 38 cs ∧ cs.size = 3) ∧ ∃ V' Ws', Ph3 w CH n EB g (w2.setCell ⟨CH + 1 + i, 1, none⟩ v') V' Ws' (k + 1) := by
  have hv := HV.out
  have hl := Hl.out
  subst hv hl
  obtain ⟨h1, h2⟩ := Chn.append (L := layC w.heap.size n CH EB g) h.chn (i := i) hi b x hp (Nat.le_of_lt h.ph.lt) h.ch hown hg hat
  have s1 : Same (fun t => t != 41) (wr.alloc (.cells #[.pointer (some ⟨b, 0, none⟩), .int .i64 x] 41)) w2 := same_append ((h.chn.alloc _).own _ hi) hg (by rfl)
  obtain ⟨cs, hb, hc⟩ := h.row
  refine ⟨⟨_, s1 _ _ _ rfl ((h.chn.alloc _).chain _ hi), rfl⟩, _, _, ⟨h.ph.below.trans h2.below, h2.same _ _ _ rfl h.ph.res⟩, h.ch, h.eb, ⟨cs, h2.same _ _ _ rfl hb, hc⟩, h2.same _ _ _ rfl h.ent, h1, fun j hj => ?_, fun j hj p hpj => ?_⟩
  · by_cases hji : j = i
    · subst hji
      rw [upd_same]
      have := h.len j hj
      simp
      omega
    · rw [upd_other _ _ hji]
      have := h.len j hj
      omega
  · by_cases hji : j = i
    · subst hji
      rw [upd_same] at hpj
      simp at hpj
      rcases hpj with h' | h'
      · exact h.cnt j hj p h'
      · subst h'
        exact ⟨hx0, hx3⟩
    · rw [upd_other _ _ hji] at hpj
      exact h.cnt j hj p hpj

theorem Ph3.kept {w : World} {CH n EB : Nat} {g : Nat → ByteArray} {wr w' : World} {V : Nat → Value} {Ws : Nat → List (Nat × Int)} {k : Nat} (h : Ph3 w CH n EB g wr V Ws k) {T : TypeId → Bool} (hs : Same T wr w') (hb : Below w.heap.size wr w')
    (t30 : T 30 = true) (t33 : T 33 = true) (t38 : T 38 = true) (t41 : T 41 = true) (t56 : T 56 = true) : Ph3 w CH n EB g w' V Ws k := by
  obtain ⟨cs, hr, hc⟩ := h.row
  exact ⟨⟨h.ph.below.trans hb, hs _ _ _ t30 h.ph.res⟩, h.ch, h.eb, ⟨cs, hs _ _ _ t33 hr, hc⟩, hs _ _ _ t56 h.ent, h.chn.kept hs t38 t41 (fun _ cs' hb' => ⟨cs', hs _ _ _ t56 hb'⟩), h.len, h.cnt⟩

theorem same_none {w w' : World} (T : TypeId → Bool) (hg : w.grownBy w' none) : Same T w w' := fun _ _ _ _ h => h.grown hg (by simp)

/-- The copies of the chains' waiters. -/
structure Snap (B n SN : Nat) (wr : World) (SV V : Nat → Value) (Ws : Nat → List (Nat × Int)) (k : Nat) : Prop where
  row : ∃ cs, Blk wr SN 34 cs ∧ cs.size = n ∧ ∀ j, j < k → cs[j]? = some (SV j)
  own : ∀ j, j < k → wr.ownsRow B 41 2 (SV j) (Ws j).length (wcells (Ws j))
  foreign : ∀ j, j < k → ∀ b, (SV j).ownBlock = some b → Foreign n V b

theorem Snap.kept {B n SN : Nat} {wr w' : World} {SV V : Nat → Value} {Ws : Nat → List (Nat × Int)} {k : Nat} (h : Snap B n SN wr SV V Ws k) {T : TypeId → Bool} (hs : Same T wr w') (t34 : T 34 = true) (t41 : T 41 = true) : Snap B n SN w' SV V Ws k := by
  obtain ⟨cs, hr, hz, hc⟩ := h.row
  exact ⟨⟨cs, hs _ _ _ t34 hr, hz, hc⟩, fun j hj => hs.owns t41 (h.own j hj), h.foreign⟩

theorem Snap.start {w : World} {CH n EB : Nat} {g : Nat → ByteArray} {wr : World} {V : Nat → Value} {Ws : Nat → List (Nat × Int)} {k : Nat} (_h : Ph3 w CH n EB g wr V Ws k) :
    Snap w.heap.size n wr.heap.size (wr.alloc (.cells (madeCells #[.slice none 0 0] n) 34)) (fun _ => .slice none 0 0) V Ws 0 :=
  ⟨⟨_, blk_new _ _ _, size_madeCells _ _, fun j hj => absurd hj (by omega)⟩, fun j hj => absurd hj (by omega), fun j hj => absurd hj (by omega)⟩

theorem Snap.step {w : World} {CH n EB SN : Nat} {g : Nat → ByteArray} {wr w1 : World} {SV V : Nat → Value} {Ws : Nat → List (Nat × Int)} {k m : Nat} (h : Ph3 w CH n EB g wr V Ws m) (hs : Snap w.heap.size n SN wr SV V Ws k) (hk : k < n) (hSN : w.heap.size ≤ SN)
    {v' : Value} (hown : w1.ownsRow w.heap.size 41 2 v' (Ws k).length (wcells (Ws k))) (hg : wr.grownBy w1 none) (hat : v'.ownBlock = none ∨ ∃ b, v'.ownBlock = some b ∧ wr.heap.size ≤ b) :
    (∃ cs, Blk w1 SN 34 cs ∧ cs.size = n) ∧ Ph3 w CH n EB g (w1.setCell ⟨SN, k, none⟩ v') V Ws m ∧ Snap w.heap.size n SN (w1.setCell ⟨SN, k, none⟩ v') (upd SV k v') V Ws (k + 1) := by
  obtain ⟨cs, hr, hz, hc⟩ := hs.row
  have hr1 := hr.grown hg (by simp)
  have s1 := same_none (fun t => t != 34) hg
  have s2 : Same (fun t => t != 34) w1 (w1.setCell ⟨SN, k, none⟩ v') := Same.setCell hr1 (by rfl) _ _
  have b1 : Below w.heap.size wr w1 := (Below.refl _ _).grown hg (Nat.le_of_lt h.ph.lt) (fun _ h => by cases h)
  refine ⟨⟨cs, hr1, hz⟩, h.kept (s1.trans s2) (b1.setCell hSN _) rfl rfl rfl rfl rfl, ⟨_, hr1.set k v', by simp [hz], fun j hj => ?_⟩, fun j hj => ?_, fun j hj b hb => ?_⟩
  · by_cases hjk : j = k
    · subst hjk
      rw [upd_same]
      simp [hz, hk]
    · rw [upd_other _ _ hjk, Array.getElem?_setIfInBounds_ne (Ne.symm hjk)]
      exact hc j (by omega)
  · by_cases hjk : j = k
    · subst hjk
      rw [upd_same]
      exact s2.owns rfl hown
    · rw [upd_other _ _ hjk]
      exact (s1.trans s2).owns rfl (hs.own j (by omega))
  · by_cases hjk : j = k
    · subst hjk
      rw [upd_same] at hb
      rcases hat with h' | ⟨b', h', hle⟩
      · rw [h'] at hb; cases hb
      · rw [h'] at hb
        injection hb with hb
        subst hb
        intro i hi e
        have := ((h.own hi).lt _ e).2
        omega
    · rw [upd_other _ _ hjk] at hb
      exact hs.foreign j (by omega) b hb

/-- The j-th task's id. -/
def idOf (j : Nat) : ByteArray := strOfNums [116, (j : Int) / 256, (j : Int) % 256]
theorem idOf_size (j : Nat) : (idOf j).size ≤ maxLen := by
  unfold idOf
  rw [strOfNums_size]
  unfold maxLen
  simp
theorem idOf_inj {j k : Nat} (hj : j < 65536) (hk : k < 65536) (h : idOf j = idOf k) : j = k := by
  have h1 := congrArg (fun s => s.data.toList) h
  simp only [idOf, strOfNums_data, List.map_cons, List.map_nil, List.cons.injEq, and_true] at h1
  obtain ⟨_, h2, h3⟩ := h1
  have h2' := congrArg UInt8.toNat h2
  have h3' := congrArg UInt8.toNat h3
  simp at h2' h3'
  omega

theorem conv_id (wr : World) (k : Nat) : (convert 22 9 (.slice (some ⟨wr.heap.size, 0, none⟩) 3 3)).run Yba.prog (wr.alloc (.cells #[.int .u8 116, .int .u8 ((k : Int) / 256), .int .u8 ((k : Int) % 256)] 5)) = .ok (.string (idOf k)) (wr.alloc (.cells #[.int .u8 116, .int .u8 ((k : Int) / 256), .int .u8 ((k : Int) % 256)] 5)) := by
  refine run_convert_bytes_arg _ 22 5 Yba.underlying22 Yba.underlying5 _ 0 3 3 _ rfl (fun i hi => ?_) 9 Yba.underlying9
  match i, hi with
  | 0, _ => simp
  | 1, _ => simp
  | 2, _ => simp

/-- The tasks that are made so far. 'ci j': the chain of task j. -/
structure Ph5 (B CH EB QB MB : Nat) (ci : Nat → Nat) (wr : World) (vi vc : Value) (km ki kc : Nat) : Prop where
  size : B ≤ wr.heap.size
  mb : B ≤ MB
  q : ∃ cs, Blk wr QB 77 cs ∧ cs[4]? = some (.map (some MB))
  map : ∃ f hf, MapIs Yba.prog 9 (.pointer none) wr MB km f hf ∧ ∀ j, j < km → ∃ b cs, f (idOf j) = .pointer (some ⟨b, 0, none⟩) ∧ b ≠ EB ∧ Blk wr b 56 cs ∧ cs[24]? = some (.pointer (some ⟨CH + 1 + ci j, 0, none⟩))
  ids : wr.ownsRow B 9 1 vi ki ((List.range ki).map fun j => .string (idOf j))
  cof : wr.ownsRow B 3 1 vc kc ((List.range kc).map fun j => .int .i64 (ci j))

/-- All rows of cells stand, and the map. -/
theorem Ph5.kept {B CH EB QB MB : Nat} {ci : Nat → Nat} {wr w' : World} {vi vc : Value} {km ki kc : Nat} (h : Ph5 B CH EB QB MB ci wr vi vc km ki kc) (hs : Same (fun _ => true) wr w') (hm : w'.heap[MB]? = wr.heap[MB]?) (hz : wr.heap.size ≤ w'.heap.size) : Ph5 B CH EB QB MB ci w' vi vc km ki kc := by
  obtain ⟨cs, hq, hq4⟩ := h.q
  obtain ⟨f, hf, hmap, ht⟩ := h.map
  refine ⟨Nat.le_trans h.size hz, h.mb, ⟨cs, hs _ _ _ rfl hq, hq4⟩, ⟨f, hf, hmap.same hm, fun j hj => ?_⟩, hs.owns rfl h.ids, hs.owns rfl h.cof⟩
  obtain ⟨b, cs, h1, h2, h3, h4⟩ := ht j hj
  exact ⟨b, cs, h1, h2, hs _ _ _ rfl h3, h4⟩

theorem Ph5.alloc {B CH EB QB MB : Nat} {ci : Nat → Nat} {wr : World} {vi vc : Value} {km ki kc : Nat} (h : Ph5 B CH EB QB MB ci wr vi vc km ki kc) (o : Obj) : Ph5 B CH EB QB MB ci (wr.alloc o) vi vc km ki kc := by
  obtain ⟨f, hf, hmap, _⟩ := h.map
  exact h.kept (Same.alloc _ _ _) (Below.heap_alloc _ _ _ hmap.lt) (by simp)

def q77 (MB : Nat) : Array Value := #[.pointer none, .nilFunc, .int .i32 0, .int .u32 0, .map (some MB), .slice none 0 0, .slice none 0 0, .int .u64 0, .chan none, .map none, .int .u64 0, .int .u64 0, .int .i64 0, .pointer none, .map none, .map none, .slice none 0 0, .slice none 0 0, .map none, .slice none 0 0, .chan none]

theorem Ph5.start {w wr w2 w3 : World} {CH EB : Nat} (ci : Nat → Nat) {v2 v3 : Value} (hB : w.heap.size ≤ wr.heap.size) (hg2 : ((wr.alloc (.map #[] 0)).alloc (.cells (q77 wr.heap.size) 77)).grownBy w2 none) (hids : w2.ownsRow w.heap.size 9 1 v2 0 [])
    (hg3 : w2.grownBy w3 none) (hcof : w3.ownsRow w.heap.size 3 1 v3 0 []) :
    Ph5 w.heap.size CH EB (wr.heap.size + 1) wr.heap.size ci w3 v2 v3 0 0 0 ∧ Same (fun _ => true) wr w3 ∧ Below w.heap.size wr w3 := by
  have s2 := same_none (fun _ => true) hg2
  have s3 := same_none (fun _ => true) hg3
  have hz2 := hg2.size
  have hz3 := hg3.size
  simp at hz2
  have hq : Blk ((wr.alloc (.map #[] 0)).alloc (.cells (q77 wr.heap.size) 77)) (wr.heap.size + 1) 77 (q77 wr.heap.size) := by
    have := blk_new (wr.alloc (.map #[] 0)) 77 (q77 wr.heap.size)
    simpa using this
  have hm := mapIs_made Yba.prog 9 (.pointer none) wr
  have hm2 : MapIs Yba.prog 9 (.pointer none) ((wr.alloc (.map #[] 0)).alloc (.cells (q77 wr.heap.size) 77)) wr.heap.size 0 (fun _ => .pointer none) (fun _ => false) := hm.same (Below.heap_alloc _ _ _ (by simp))
  refine ⟨⟨by omega, hB, ⟨_, s3 _ _ _ rfl (s2 _ _ _ rfl hq), rfl⟩, ⟨_, _, (hm2.kept hg2 (by simp)).kept hg3 (by simp), fun j hj => absurd hj (by omega)⟩, s3.owns rfl hids, hcof⟩, ((Same.alloc _ _ _).trans (Same.alloc _ _ _)).trans (s2.trans s3), ?_⟩
  have b0 : Below w.heap.size wr ((wr.alloc (.map #[] 0)).alloc (.cells (q77 wr.heap.size) 77)) := ((Below.refl _ _).alloc hB _).alloc (by simp; omega) _
  exact (b0.grown hg2 (by simp; omega) (fun _ h => by cases h)).grown hg3 (by omega) (fun _ h => by cases h)

/-- 'q.tasks[id] = &entry{chain: chains[ci]}'. -/
theorem Ph5.task {B CH EB QB MB : Nat} {ci : Nat → Nat} {wr : World} {vi vc : Value} {k ki kc : Nat} (h : Ph5 B CH EB QB MB ci wr vi vc k ki kc) (hk : k < 1024) {c : Nat} (hc : c = ci k) (hEB : EB < wr.heap.size) (o : Obj) :
    ∃ w4, (Instr.mapUpdate 60 (.map (some MB)) (.string (idOf k)) (.pointer (some ⟨wr.heap.size + 1, 0, none⟩))).run Yba.prog
        ((wr.alloc o).alloc (.cells #[.string ⟨#[]⟩, .string ⟨#[]⟩, .slice none 0 0, .string ⟨#[]⟩, .string ⟨#[]⟩, .string ⟨#[]⟩, .slice none 0 0, .int .i64 0, .slice none 0 0, .int .i64 0, .pointer none, .string ⟨#[]⟩, .int .u64 0, .int .i64 0, .pointer none, .int .u64 0, .int .i64 0, .pointer none, .int .u64 0, .int .i64 0, .pointer none, .chan none, .int .u64 0, .int .i64 0, .pointer (some ⟨CH + 1 + c, 0, none⟩), .int .i64 0, .int .i64 0] 56)).drew = .ok () w4 ∧
      Same (fun _ => true) wr w4 ∧ Below B wr w4 ∧ Ph5 B CH EB QB MB ci w4 vi vc (k + 1) ki kc := by
  subst hc
  generalize hE : (#[.string ⟨#[]⟩, .string ⟨#[]⟩, .slice none 0 0, .string ⟨#[]⟩, .string ⟨#[]⟩, .string ⟨#[]⟩, .slice none 0 0, .int .i64 0, .slice none 0 0, .int .i64 0, .pointer none, .string ⟨#[]⟩, .int .u64 0, .int .i64 0, .pointer none, .int .u64 0, .int .i64 0, .pointer none, .int .u64 0, .int .i64 0, .pointer none, .chan none, .int .u64 0, .int .i64 0, .pointer (some ⟨CH + 1 + ci k, 0, none⟩), .int .i64 0, .int .i64 0] : Array Value) = E
  have hE24 : E[24]? = some (.pointer (some ⟨CH + 1 + ci k, 0, none⟩)) := by rw [← hE]; rfl
  clear hE
  obtain ⟨f, hf, hmap, ht⟩ := h.map
  have hM : MapIs Yba.prog 9 (.pointer none) ((wr.alloc o).alloc (.cells E 56)).drew MB k f hf := hmap.same (by
    show ((wr.alloc o).alloc (.cells E 56)).heap[MB]? = _
    rw [Below.heap_alloc _ _ _ (by have := hmap.lt; simp; omega), Below.heap_alloc _ _ _ hmap.lt])
  obtain ⟨w4, hrun, hM4, hg4⟩ := hM.update (t := 60) (e := 24) Yba.underlying9 Yba.underlying60 (by unfold maxLen; omega) (idOf_size k) (.pointer (some ⟨wr.heap.size + 1, 0, none⟩))
  have s0 : Same (fun _ => true) wr ((wr.alloc o).alloc (.cells E 56)).drew := (Same.alloc _ _ _).trans (Same.alloc _ _ _)
  have s1 : Same (fun _ => true) ((wr.alloc o).alloc (.cells E 56)).drew w4 := Same.grown hg4 (fun t cs hb => absurd hb hM.noCells)
  have b0 : Below B wr ((wr.alloc o).alloc (.cells E 56)).drew := (((Below.refl _ _).alloc h.size _).alloc (by have := h.size; simp; omega) _).drew
  have b1 : Below B wr w4 := b0.grown hg4 (by have := h.size; show B ≤ ((wr.alloc o).alloc (.cells E 56)).heap.size; simp; omega) (fun j hj => by cases hj; exact h.mb)
  have hn : Blk w4 (wr.heap.size + 1) 56 E := by
    have h0 := blk_new (wr.alloc o) 56 E
    simp only [World.size_alloc] at h0
    exact s1 _ _ _ rfl h0
  have s01 := s0.trans s1
  obtain ⟨cs, hq, hq4⟩ := h.q
  refine ⟨w4, hrun, s01, b1, ⟨Nat.le_trans h.size b1.size, h.mb, ⟨cs, s01 _ _ _ rfl hq, hq4⟩, ⟨_, _, hM4, fun j hj => ?_⟩, s01.owns rfl h.ids, s01.owns rfl h.cof⟩⟩
  by_cases hjk : j = k
  · subst hjk
    exact ⟨wr.heap.size + 1, E, by simp, by omega, hn, hE24⟩
  · obtain ⟨b, cs, h1, h2, h3, h4⟩ := ht j (by omega)
    refine ⟨b, cs, ?_, h2, s01 _ _ _ rfl h3, h4⟩
    have hne : idOf j ≠ idOf k := fun e => hjk (idOf_inj (by omega) (by omega) e)
    simp only [if_neg hne]
    exact h1

/-- One more id, one more chain's number. -/
theorem Ph5.appI {w : World} {CH EB QB MB : Nat} {ci : Nat → Nat} {wr w' : World} {vi vc v' : Value} {km k kc : Nat} (h : Ph5 w.heap.size CH EB QB MB ci wr vi vc km k kc) {o : Obj} (hg : (wr.alloc o).grownBy w' vi.ownBlock) (hown : w'.ownsRow w.heap.size 9 1 v' (k + 1) ((List.range k).map (fun j => .string (idOf j)) ++ [.string (idOf k)])) :
    Same (fun t => t != 9) wr w' ∧ Below w.heap.size wr w' ∧ Ph5 w.heap.size CH EB QB MB ci w' v' vc km (k + 1) kc := by
  have h0 := h.alloc o
  have s1 : Same (fun t => t != 9) (wr.alloc o) w' := same_append h0.ids hg (by rfl)
  have s01 : Same (fun t => t != 9) wr w' := (Same.alloc _ _ _).trans s1
  have b1 : Below w.heap.size wr w' := ((Below.refl _ _).alloc h.size o).grown hg h0.size (fun k hk => (h0.ids.lt k hk).1)
  obtain ⟨cs, hq, hq4⟩ := h.q
  obtain ⟨f, hf, hmap, ht⟩ := h.map
  obtain ⟨f0, hf0, hmap0, _⟩ := h0.map
  refine ⟨s01, b1, ⟨Nat.le_trans h.size b1.size, h.mb, ⟨cs, s01 _ _ _ rfl hq, hq4⟩, ⟨f, hf, hmap.same ?_, fun j hj => ?_⟩, by rw [range_snoc]; exact hown, s01.owns rfl h.cof⟩⟩
  · rw [hg.block MB hmap0.lt (fun e => by obtain ⟨cur, hc⟩ := owns_type h0.ids MB e.symm; exact hmap0.noCells hc)]
    exact Below.heap_alloc _ _ _ hmap.lt
  · obtain ⟨b, cs, h1, h2, h3, h4⟩ := ht j hj
    exact ⟨b, cs, h1, h2, s01 _ _ _ rfl h3, h4⟩

theorem Ph5.appC {w : World} {CH EB QB MB : Nat} {ci : Nat → Nat} {wr w' : World} {vi vc v' : Value} {km ki k : Nat} (h : Ph5 w.heap.size CH EB QB MB ci wr vi vc km ki k) {o : Obj} (hg : (wr.alloc o).grownBy w' vc.ownBlock) {x : Int} (hx : x = (ci k : Int)) (hown : w'.ownsRow w.heap.size 3 1 v' (k + 1) ((List.range k).map (fun j => .int .i64 (ci j : Int)) ++ [.int .i64 x])) :
    Same (fun t => t != 3) wr w' ∧ Below w.heap.size wr w' ∧ Ph5 w.heap.size CH EB QB MB ci w' vi v' km ki (k + 1) := by
  subst hx
  have h0 := h.alloc o
  have s1 : Same (fun t => t != 3) (wr.alloc o) w' := same_append h0.cof hg (by rfl)
  have s01 : Same (fun t => t != 3) wr w' := (Same.alloc _ _ _).trans s1
  have b1 : Below w.heap.size wr w' := ((Below.refl _ _).alloc h.size o).grown hg h0.size (fun k hk => (h0.cof.lt k hk).1)
  obtain ⟨cs, hq, hq4⟩ := h.q
  obtain ⟨f, hf, hmap, ht⟩ := h.map
  obtain ⟨f0, hf0, hmap0, _⟩ := h0.map
  refine ⟨s01, b1, ⟨Nat.le_trans h.size b1.size, h.mb, ⟨cs, s01 _ _ _ rfl hq, hq4⟩, ⟨f, hf, hmap.same ?_, fun j hj => ?_⟩, s01.owns rfl h.ids, by rw [range_snoc]; exact hown⟩⟩
  · rw [hg.block MB hmap0.lt (fun e => by obtain ⟨cur, hc⟩ := owns_type h0.cof MB e.symm; exact hmap0.noCells hc)]
    exact Below.heap_alloc _ _ _ hmap.lt
  · obtain ⟨b, cs, h1, h2, h3, h4⟩ := ht j hj
    exact ⟨b, cs, h1, h2, s01 _ _ _ rfl h3, h4⟩

/-- The ids waited on, and their chains' numbers, each in a row of its own. -/
structure Ph6 (B : Nat) (ci sx : Nat → Nat) (wr : World) (vi vc va vb : Value) (ka kb : Nat) : Prop where
  aid : wr.ownsRow B 9 1 va ka ((List.range ka).map fun j => .string (idOf (sx j)))
  acf : wr.ownsRow B 3 1 vb kb ((List.range kb).map fun j => .int .i64 (ci (sx j)))
  ap9 : va.ownBlock = none ∨ va.ownBlock ≠ vi.ownBlock
  ap3 : vb.ownBlock = none ∨ vb.ownBlock ≠ vc.ownBlock

theorem Ph6.appA {w : World} {CH EB QB MB : Nat} {ci sx : Nat → Nat} {wr w' : World} {vi vc va vb v' : Value} {km ki kc k kb : Nat} (h : Ph5 w.heap.size CH EB QB MB ci wr vi vc km ki kc) (h6 : Ph6 w.heap.size ci sx wr vi vc va vb k kb) {o : Obj} (hg : (wr.alloc o).grownBy w' va.ownBlock)
    (hown : w'.ownsRow w.heap.size 9 1 v' (k + 1) ((List.range k).map (fun j => .string (idOf (sx j))) ++ [.string (idOf (sx k))])) (hat : v'.ownBlock = va.ownBlock ∨ v'.ownBlock = some (wr.heap.size + 1)) :
    Same (fun t => t != 9) wr w' ∧ Below w.heap.size wr w' ∧ Ph5 w.heap.size CH EB QB MB ci w' vi vc km ki kc ∧ Ph6 w.heap.size ci sx w' vi vc v' vb (k + 1) kb := by
  have h0 := h.alloc o
  have a0 := h6.aid.alloc o
  have s1 : Same (fun t => t != 9) (wr.alloc o) w' := same_append a0 hg (by rfl)
  have s01 : Same (fun t => t != 9) wr w' := (Same.alloc _ _ _).trans s1
  have b1 : Below w.heap.size wr w' := ((Below.refl _ _).alloc h.size o).grown hg h0.size (fun k hk => (a0.lt k hk).1)
  obtain ⟨cs, hq, hq4⟩ := h.q
  obtain ⟨f, hf, hmap, ht⟩ := h.map
  obtain ⟨f0, hf0, hmap0, _⟩ := h0.map
  have hids : w'.ownsRow w.heap.size 9 1 vi ki ((List.range ki).map fun j => .string (idOf j)) := by
    by_cases hn : vi.ownBlock = none
    · exact h0.ids.kept hg (.inl hn)
    · refine h0.ids.kept hg (.inr (fun e => ?_))
      rcases h6.ap9 with h' | h'
      · rw [h'] at e; exact hn e
      · exact h' e.symm
  refine ⟨s01, b1, ⟨Nat.le_trans h.size b1.size, h.mb, ⟨cs, s01 _ _ _ rfl hq, hq4⟩, ⟨f, hf, hmap.same ?_, fun j hj => ?_⟩, hids, s01.owns rfl h.cof⟩, ⟨by rw [range_snoc]; exact hown, s01.owns rfl h6.acf, ?_, h6.ap3⟩⟩
  · rw [hg.block MB hmap0.lt (fun e => by obtain ⟨cur, hc⟩ := owns_type a0 MB e.symm; exact hmap0.noCells hc)]
    exact Below.heap_alloc _ _ _ hmap.lt
  · obtain ⟨b, cs, h1, h2, h3, h4⟩ := ht j hj
    exact ⟨b, cs, h1, h2, s01 _ _ _ rfl h3, h4⟩
  · rcases hat with h' | h'
    · rw [h']; exact h6.ap9
    · right
      rw [h']
      intro e
      have := (h.ids.lt _ e.symm).2
      omega

theorem Ph6.appB {w : World} {CH EB QB MB : Nat} {ci sx : Nat → Nat} {wr w' : World} {vi vc va vb v' : Value} {km ki kc ka k : Nat} (h : Ph5 w.heap.size CH EB QB MB ci wr vi vc km ki kc) (h6 : Ph6 w.heap.size ci sx wr vi vc va vb ka k) {o : Obj} (hg : (wr.alloc o).grownBy w' vb.ownBlock)
    (hown : w'.ownsRow w.heap.size 3 1 v' (k + 1) ((List.range k).map (fun j => .int .i64 (ci (sx j) : Int)) ++ [.int .i64 (ci (sx k) : Int)])) (hat : v'.ownBlock = vb.ownBlock ∨ v'.ownBlock = some (wr.heap.size + 1)) :
    Same (fun t => t != 3) wr w' ∧ Below w.heap.size wr w' ∧ Ph5 w.heap.size CH EB QB MB ci w' vi vc km ki kc ∧ Ph6 w.heap.size ci sx w' vi vc va v' ka (k + 1) := by
  have h0 := h.alloc o
  have a0 := h6.acf.alloc o
  have s1 : Same (fun t => t != 3) (wr.alloc o) w' := same_append a0 hg (by rfl)
  have s01 : Same (fun t => t != 3) wr w' := (Same.alloc _ _ _).trans s1
  have b1 : Below w.heap.size wr w' := ((Below.refl _ _).alloc h.size o).grown hg h0.size (fun k hk => (a0.lt k hk).1)
  obtain ⟨cs, hq, hq4⟩ := h.q
  obtain ⟨f, hf, hmap, ht⟩ := h.map
  obtain ⟨f0, hf0, hmap0, _⟩ := h0.map
  have hcof : w'.ownsRow w.heap.size 3 1 vc kc ((List.range kc).map fun j => .int .i64 (ci j)) := by
    by_cases hn : vc.ownBlock = none
    · exact h0.cof.kept hg (.inl hn)
    · refine h0.cof.kept hg (.inr (fun e => ?_))
      rcases h6.ap3 with h' | h'
      · rw [h'] at e; exact hn e
      · exact h' e.symm
  refine ⟨s01, b1, ⟨Nat.le_trans h.size b1.size, h.mb, ⟨cs, s01 _ _ _ rfl hq, hq4⟩, ⟨f, hf, hmap.same ?_, fun j hj => ?_⟩, s01.owns rfl h.ids, hcof⟩, ⟨s01.owns rfl h6.aid, by rw [range_snoc]; exact hown, h6.ap9, ?_⟩⟩
  · rw [hg.block MB hmap0.lt (fun e => by obtain ⟨cur, hc⟩ := owns_type a0 MB e.symm; exact hmap0.noCells hc)]
    exact Below.heap_alloc _ _ _ hmap.lt
  · obtain ⟨b, cs, h1, h2, h3, h4⟩ := ht j hj
    exact ⟨b, cs, h1, h2, s01 _ _ _ rfl h3, h4⟩
  · rcases hat with h' | h'
    · rw [h']; exact h6.ap3
    · right
      rw [h']
      intro e
      have := (h.cof.lt _ e.symm).2
      omega

/-- The case stands where rows of its types do. -/
theorem Base.kept {L : Lay} {av acv : Value} {w w' : World} (hb : Base L av acv w) {T : TypeId → Bool} (hs : Same T w w') (hz : w.heap.size ≤ w'.heap.size) (hm : w'.heap[L.MB]? = w.heap[L.MB]?)
    (t33 : T 33 = true) (t56 : T 56 = true) (t77 : T 77 = true) (t9 : T 9 = true) (t3 : T 3 = true) : Base L av acv w' := by
  obtain ⟨rcs, hr, hrc⟩ := hb.rowT
  obtain ⟨ecs, he, hes⟩ := hb.eb
  obtain ⟨qcs, hq, hq4⟩ := hb.q
  refine ⟨Nat.le_trans hb.size hz, hb.n1, hb.n2, hb.m2, ⟨rcs, hs _ _ _ t33 hr, hrc⟩, ⟨ecs, hs _ _ _ t56 he, hes⟩, ⟨qcs, hs _ _ _ t77 hq, hq4⟩, hb.map.same hm, fun j hj => ?_, hs.owns t9 hb.av, hs.owns t3 hb.acv⟩
  obtain ⟨h1, h2, b, cs, h3, h4, h5, h6⟩ := hb.ids j hj
  exact ⟨h1, h2, b, cs, h3, h4, hs _ _ _ t56 h5, h6⟩

/-- What zzs4083abuild hands back. -/
structure Case (w w' : World) (L : Lay) (SN : Nat) (SV V : Nat → Value) (Ws : Nat → List (Nat × Int)) (av acv : Value) : Prop where
  B : L.B = w.heap.size
  base : Base L av acv w'
  chn : Chn L w' V Ws
  snap : Snap L.B L.n SN w' SV V Ws L.n
  len : ∀ i, i < L.n → (Ws i).length ≤ 1024
  cnt : ∀ i, i < L.n → ∀ p ∈ Ws i, 0 ≤ p.2 ∧ p.2 ≤ 3
  ch : L.B ≤ L.CH
  eb : L.B ≤ L.EB
  below : Below w.heap.size w w'

theorem assemble {w wr : World} {CH n EB QB MB SN n2 n4 m : Nat} {g : Nat → ByteArray} {V SV : Nat → Value} {Ws : Nat → List (Nat × Int)} {cif sx : Nat → Nat} {vi vc va vb : Value} (hn1 : 1 ≤ n) (hn2 : n ≤ 1024) (hm : m ≤ 1024) (l4 : n4 ≤ 1024)
    (hc : ∀ j, cif j < n) (hsx : ∀ j, j < m → sx j < n2) (hQ : Ph3 w CH n EB g wr V Ws n4) (hS : Snap w.heap.size n SN wr SV V Ws n) (h5 : Ph5 w.heap.size CH EB QB MB cif wr vi vc n2 n2 n2) (h6 : Ph6 w.heap.size cif sx wr vi vc va vb m m) :
    ∃ L : Lay, L.n = n ∧ L.CH = CH ∧ L.EB = EB ∧ L.QB = QB ∧ Case w wr L SN SV V Ws va vb := by
  obtain ⟨f, hf, hmap, ht⟩ := h5.map
  obtain ⟨rcs, hr, hrc⟩ := hQ.row
  refine ⟨{ B := w.heap.size, n := n, CH := CH, EB := EB, QB := QB, MB := MB, N := n2, m := m, g := g, f := f, hf := hf, s := fun j => idOf (sx j), c := fun j => cif (sx j) }, rfl, rfl, rfl, rfl, ?_⟩
  refine ⟨rfl, ⟨h5.size, hn1, hn2, hm, ⟨rcs, hr, hrc⟩, ⟨_, hQ.ent, rfl⟩, h5.q, hmap, fun j hj => ?_, h6.aid, h6.acf⟩, ⟨fun i hi => hQ.chn.chain i hi, fun i hi => hQ.chn.own i hi, fun i j hi hj hij => hQ.chn.apart i j hi hj hij, fun i hi p hp => hQ.chn.ents i hi p hp⟩, hS, fun i hi => Nat.le_trans (hQ.len i hi) l4, hQ.cnt, hQ.ch, hQ.eb, hQ.ph.below⟩
  obtain ⟨b, cs, h1, h2, h3, h4⟩ := ht (sx j) (hsx j hj)
  exact ⟨idOf_size _, hc _, b, cs, h1, h2, h3, h4⟩

/-- The result is stored into its variable: the case stands. -/
theorem Case.set {w wr : World} {L : Lay} {SN : Nat} {SV V : Nat → Value} {Ws : Nat → List (Nat × Int)} {av acv : Value} (h : Case w wr L SN SV V Ws av acv) {b : Nat} {cs : Array Value} (hb : Blk wr b 30 cs) (hB : w.heap.size ≤ b) (i : Nat) (v : Value) : Case w (wr.setCell ⟨b, i, none⟩ v) L SN SV V Ws av acv := by
  have s : Same (fun t => t != 30) wr (wr.setCell ⟨b, i, none⟩ v) := Same.setCell hb (by rfl) _ _
  refine ⟨h.B, h.base.kept s (by simp) (Below.heap_setCell _ _ _ _ (fun e => by have := h.base.map.noCells (cs := cs) (u := 30) (fr := (0, 0)); rw [e] at this; exact this hb)) rfl rfl rfl rfl rfl, h.chn.kept s rfl rfl (fun _ cs' h' => ⟨cs', s _ _ _ rfl h'⟩), h.snap.kept s rfl rfl, h.len, h.cnt, h.ch, h.eb, h.below.setCell hB _⟩

theorem two_new' (w : World) (o : Obj) (x y : Value) (t : TypeId) : ∀ j u, [x, y][j]? = some u → ((w.alloc o).alloc (.cells #[x, y] t)).cell? ((⟨w.heap.size + 1, 0, none⟩ : Addr).add j) = some u := by
  have := two_new (w.alloc o) x y t
  simpa using this

set_option maxRecDepth 100000 in
set_option maxHeartbeats 4000000 in
theorem build_any (A1 A2 A3 A4 : Option Addr) (n1 n2 n3 n4 c1 c2 c3 c4 : Nat) (G TC AF PR : Nat → Int) (w : World)
    (l1 : n1 ≤ 1024) (l2 : n2 ≤ 1024) (l3 : n3 ≤ 1024) (l4 : n4 ≤ 1024) (a1 : ByteArg w A1 n1 G) (a2 : ByteArg w A2 n2 TC) (a3 : ByteArg w A3 n3 AF) (a4 : ByteArg w A4 n4 PR) :
    Calls Yba.prog 5 #[.slice A1 n1 c1, .slice A2 n2 c2, .slice A3 n3 c3, .slice A4 n4 c4] w fun e w' => ∃ (L : Lay) (SN : Nat) (SV V : Nat → Value) (Ws : Nat → List (Nat × Int)) (av acv : Value),
      e = .returned (.agg #[.pointer (some ⟨L.QB, 0, none⟩), .pointer (some ⟨L.EB, 0, none⟩), .slice (some ⟨L.CH, 0, none⟩) L.n L.n, .slice (some ⟨SN, 0, none⟩) L.n L.n, av, acv]) ∧ Case w w' L SN SV V Ws av acv := by
  obtain ⟨i36, hi36, z36a, z36b, z36c⟩ := info_parts info36
  go_enter Yba.func5, Yba.ntmps5
  go_wp2_with (at_make; refine wpList_make_own _ rfl _ _ 57 rfl w.heap.size 36 i36 (.string ⟨#[]⟩) 1 Yba.underlying57 hi36 z36a z36b .i64 .i64 _ (n1 + 1) rfl rfl (by simp) (by rw [z36c]; omega) (by unfold maxLen; omega) (by simp) ?_)
  intro w1 hown1 hg1
  have hP1 : Ph w w1 := by
    have h0 : Ph w (w.alloc (.cells zero30 30)) := ⟨(Below.refl _ _).alloc (Nat.le_refl _) _, blk_new _ _ _⟩
    exact h0.grown hg1
  clear hg1
  go_wp2_with fail
  go_loopw [9, 39] (fun v i wr => ∃ (k : Nat) (A : Option Addr) (cap : Nat), k ≤ n1 ∧ i = .int .i64 k ∧ v = .slice A k cap ∧ wr.ownsRow w.heap.size 36 1 (.slice A k cap) k ((List.range k).map fun j => .string (stat (G j))) ∧ Ph w wr) (fun _ i _ => n1 - (intOf i).toNat)
  case atStart => exact ⟨0, _, _, Nat.zero_le _, rfl, rfl, hown1, hP1⟩
  case round =>
    obtain ⟨k, A, cap, hk, rfl, rfl, hown, hP⟩ := hrel
    clear hown1 hP1
    by_cases hlt : k < n1
    · -- <<A
      obtain ⟨⟨b, o, rfl, hb, hcell⟩, g0, g1⟩ := a1 k hlt
      have r1 := (hP.below.cell (p := ⟨b, o + k, none⟩) hb).trans hcell
      have Hsn : Hid ((List.range (k + 1)).map (fun j => Value.string (stat (G j))) = (List.range k).map (fun j => Value.string (stat (G j))) ++ [.string (stat (G k))]) := range_snoc _ _
      clear hcell hb a1 a2 a3 a4
      go_wp2_with fail
      refine (status_any (G k) wr g0 g1).mono ?_
      rintro e w' ⟨rfl, rfl⟩
      have hsz := hP.lt
      go_wp2_with (at_builtin; refine wpList_append_own_at _ rfl _ _ 57 rfl w.heap.size 36 i36 (.string ⟨#[]⟩) 1 16 Yba.underlying57 hi36 z36a z36b z36c rfl (by decide) _ _ _ rfl (hown.alloc _) ⟨wr.heap.size, 0, none⟩ 1 1 [.string (stat (G k))] rfl rfl (cell_one_new _ _ _) (one_str _) (by unfold maxLen; omega) (by omega) (by simp; omega) ?_)
      intro v' w2 hown' hgrow _ _
      have hP2 : Ph w w2 := (hP.alloc _).append (hown.alloc _) (by decide) hgrow
      rw [← Hsn.out] at hown'
      obtain ⟨A', cap', rfl, _, _, _⟩ := owns_view hown'
      clear hgrow hown hP r1 Hsn hsz
      go_wp2_with fail
      go_roundw
      case rel => exact ⟨k + 1, A', cap', by omega, by go_num, rfl, hown', hP2⟩
      case measure => simp [intOf]; omega
      -- A>>
    · obtain rfl : n1 = k := by omega
      go_upto_if 51 with fail
      have hn1 : 1 ≤ nCh n1 := by unfold nCh; split <;> omega
      have hn2 : nCh n1 ≤ 1024 := by unfold nCh; split <;> omega
      go_cut [9] from 33 (fun v wr => ∃ A cap, v = .slice A (nCh n1) cap ∧ wr.ownsRow w.heap.size 36 1 (.slice A (nCh n1) cap) (nCh n1) ((List.range (nCh n1)).map fun j => .string (gCh n1 G j)) ∧ Ph w wr)
      case first =>
        -- <<B
        have hsz := hP.lt
        by_cases h0 : n1 = 0
        · subst h0
          have hb : (((0 : Nat) : Int) == 0) = true := by decide
          go_wp2_with (at_builtin; refine wpList_append_own_at _ rfl _ _ 57 rfl w.heap.size 36 i36 (.string ⟨#[]⟩) 1 16 Yba.underlying57 hi36 z36a z36b z36c rfl (by decide) _ _ _ rfl (hown.alloc _) ⟨wr.heap.size, 0, none⟩ 1 1 [.string sPending] rfl rfl (cell_one_new _ _ _) (one_str _) (by unfold maxLen; omega) (by omega) (by simp; omega) ?_)
          intro v' w2 hown' hgrow _ _
          have hP2 : Ph w w2 := (hP.alloc _).append (hown.alloc _) (by decide) hgrow
          obtain ⟨A', cap', rfl, _, _, _⟩ := owns_view hown'
          clear hgrow hown hP
          go_wp2_with fail
          go_meet
          case rel => exact ⟨A', cap', rfl, by simpa [gCh, nCh] using hown', hP2⟩
        · have hb : ((n1 : Int) == 0) = false := by simp; omega
          go_wp2_with fail
          go_meet
          case rel => exact ⟨A, cap, by simp [nCh, h0], by simpa [gCh, nCh, h0] using hown, hP⟩
        -- B>>
      case rest =>
        obtain ⟨A, cap, rfl, hgs, hPc⟩ := hcut
        clear hown hP
        generalize nCh n1 = n at *
        generalize gCh n1 G = g at *
        have hmk := run_make_row' (P := Yba.prog) 25 33 (.pointer none) 8 Yba.underlying25 info33 rfl .i64 .i64 n (by omega) (by omega)
        go_wp2_with fail
        clear hmk
        go_loopw [60] (fun i wr => ∃ k : Nat, k ≤ n ∧ i = .int .i64 k ∧ Ph2 w wc.heap.size n g wr k ∧ wr.ownsRow w.heap.size 36 1 (.slice A n cap) n ((List.range n).map fun j => .string (g j))) (fun i _ => n - (intOf i).toNat)
        case atStart => exact ⟨0, Nat.zero_le _, rfl, Ph2.start n g hPc, hgs.alloc _⟩
        case round =>
          obtain ⟨k, hk, rfl, hP2, hgr⟩ := hrel
          by_cases hlt : k < n
          · -- <<C
            obtain ⟨gg, cur, rfl, _, hblk, hcur⟩ := owns_get hgr (range_get _ hlt)
            have r1 := (hblk.cell k).trans hcur
            obtain ⟨rcs, hrb, hrs, _⟩ := hP2.row
            obtain ⟨xo, hxo⟩ : ∃ x, rcs[k]? = some x := ⟨_, Array.getElem?_eq_getElem (by omega)⟩
            have r2 := (hrb.cell k).trans hxo
            have r3 := hrb.frozen k
            have hlt2 := hrb.lt
            have hlt1 := hblk.lt
            have hP3 := hP2.step hlt
            have hgr2 := (Same.setCell (T := fun t => t == 36) (hrb.alloc (.cells #[.slice none 0 0, .slice none 0 0, .string (g k)] 38)) (by rfl) k (.pointer (some ⟨wr.heap.size, 0, none⟩))).owns rfl (hgr.alloc _)
            rw [World.setCell_alloc_past (hn := hlt2)] at hP3 hgr2
            clear hgs hPc hblk hcur hrb hrs hxo hP2 hgr
            go_wp2_with fail
            go_roundw
            case rel => exact ⟨k + 1, by omega, by go_num, hP3, hgr2⟩
            case measure => simp [intOf]; omega
            -- C>>
          · obtain rfl : n = k := by omega
            clear hgs hPc hgr
            have hP3 := Ph3.start hP2
            have hCHlt : wc.heap.size < wr.heap.size := by have := hP2.size; omega
            clear hP2
            generalize wc.heap.size = CH at *
            go_wp2_with fail
            generalize wr.heap.size = EB at *
            go_loopw [77] (fun i wq => ∃ (k : Nat) (V : Nat → Value) (Ws : Nat → List (Nat × Int)), k ≤ n4 ∧ i = .int .i64 k ∧ Ph3 w CH n EB g wq V Ws k) (fun i _ => n4 - (intOf i).toNat)
            case atStart => exact ⟨0, _, _, Nat.zero_le _, rfl, hP3⟩
            case round =>
              obtain ⟨k, V, Ws, hk, rfl, hQ⟩ := hrel
              clear hP3
              by_cases hlt : k < n4
              · -- <<D
                obtain ⟨⟨b, o, rfl, hb, hcell⟩, g0, g1⟩ := a4 k hlt
                have r1 := (hQ.ph.below.cell (p := ⟨b, o + k, none⟩) hb).trans hcell
                clear a1 a2 a3 a4 hcell hb
                generalize PR k = x at *
                obtain ⟨ci, hci⟩ : ∃ ci : Nat, x % 128 % (n : Int) = (ci : Int) := ⟨(x % 128 % (n : Int)).toNat, by rw [Int.toNat_of_nonneg (Int.emod_nonneg _ (by omega))]⟩
                have hcin : ci < n := by have := Int.emod_lt_of_pos (x % 128) (show (0 : Int) < n by omega); omega
                obtain ⟨rcs, hrb, hrc⟩ := hQ.row
                have r2 := (hrb.cell ci).trans (hrc ci hcin)
                have hch := hQ.chain hcin
                have r3 := hch.cell 1
                simp at r3
                have hown := hQ.own hcin
                obtain ⟨A2, cap2, hv2, _, _, _⟩ := owns_view hown
                rw [hv2] at r3
                have HV : Hid (V ci = .slice A2 (Ws ci).length cap2) := hv2
                rw [hv2] at hown
                have hlen := hQ.len ci hcin
                have hsz := hQ.ph.lt
                have hchlt := hch.lt
                obtain ⟨i41, hi41, z41a, z41b, z41c⟩ := info_parts info41
                clear hv2 hrb hrc hch
                generalize hl : (Ws ci).length = l at *
                have Hl : Hid ((Ws ci).length = l) := hl
                clear hl
                by_cases h128 : 128 ≤ x
                · have hent := hQ.ent
                  go_wp2_with (at_builtin; refine wpList_append_own_at _ rfl _ _ 34 rfl w.heap.size 41 i41 (.agg #[.pointer none, .int .i64 0]) 2 16 Yba.underlying34 hi41 z41a z41b z41c rfl (by decide) _ _ _ rfl (hown.alloc _) ⟨wr.heap.size, 0, none⟩ 1 1 [.pointer (some ⟨EB, 0, none⟩), .int .i64 (x % 3 + 1)] rfl rfl (two_new _ _ _ _) (two_one _ _) (by unfold maxLen; omega) (by omega) (by simp; omega) ?_)
                  intro v' w2 hown' hgrow _ hat
                  obtain ⟨A3, cap3, rfl, _, _, _⟩ := owns_view hown'
                  obtain ⟨⟨ccs, hcb, hcs⟩, V', Ws', hQ'⟩ := hQ.step hcin EB (x % 3 + 1) ⟨_, hent⟩ (by omega) (by omega) HV Hl hown' hgrow hat
                  obtain ⟨xo, hxo⟩ : ∃ x, ccs[1]? = some x := ⟨_, Array.getElem?_eq_getElem (by omega)⟩
                  have t1 := (hcb.cell 1).trans hxo
                  have t2 := hcb.frozen 1
                  clear r1 r2 r3 hown' hgrow hat hown Hl HV hcb hcs hxo hQ hent
                  go_wp2_with fail
                  go_roundw
                  case rel => exact ⟨k + 1, V', Ws', by omega, by go_num, hQ'⟩
                  case measure => simp [intOf]; omega
                · have h128' : ¬ 128 ≤ x := h128
                  go_wp2_with (at_builtin; refine wpList_append_own_at _ rfl _ _ 34 rfl w.heap.size 41 i41 (.agg #[.pointer none, .int .i64 0]) 2 16 Yba.underlying34 hi41 z41a z41b z41c rfl (by decide) _ _ _ rfl ((hown.alloc _).alloc _) ⟨wr.heap.size + 1, 0, none⟩ 1 1 [.pointer (some ⟨wr.heap.size, 0, none⟩), .int .i64 (x % 3 + 1)] rfl rfl (two_new' _ _ _ _ _) (two_one _ _) (by unfold maxLen; omega) (by omega) (by simp; omega) ?_)
                  intro v' w2 hown' hgrow _ hat
                  obtain ⟨A3, cap3, rfl, _, _, _⟩ := owns_view hown'
                  obtain ⟨⟨ccs, hcb, hcs⟩, V', Ws', hQ'⟩ := (hQ.alloc (.cells zero56 56)).step hcin wr.heap.size (x % 3 + 1) ⟨_, blk_new wr 56 zero56⟩ (by omega) (by omega) HV Hl hown' hgrow (by simpa using hat)
                  obtain ⟨xo, hxo⟩ : ∃ x, ccs[1]? = some x := ⟨_, Array.getElem?_eq_getElem (by omega)⟩
                  have t1 := (hcb.cell 1).trans hxo
                  have t2 := hcb.frozen 1
                  clear r1 r2 r3 hown' hgrow hat hown Hl HV hcb hcs hxo hQ
                  go_wp2_with fail
                  go_roundw
                  case rel => exact ⟨k + 1, V', Ws', by omega, by go_num, hQ'⟩
                  case measure => simp [intOf]; omega
                -- D>>
              · clear a1 a4
                have hmk := run_make_row' (P := Yba.prog) 26 34 (.slice none 0 0) 24 Yba.underlying26 info34 rfl .i64 .i64 n (by omega) (by omega)
                go_wp2_with fail
                clear hmk
                have hSN : w.heap.size ≤ wr.heap.size := Nat.le_of_lt hQ.ph.lt
                have hS0 := Snap.start hQ
                have hQ0 := hQ.alloc (.cells (madeCells #[.slice none 0 0] n) 34)
                clear hQ
                generalize wr.heap.size = SN at *
                go_loopw [129] (fun i wq => ∃ (k : Nat) (SV : Nat → Value), k ≤ n ∧ i = .int .i64 k ∧ Ph3 w CH n EB g wq V Ws n4 ∧ Snap w.heap.size n SN wq SV V Ws k) (fun i _ => n - (intOf i).toNat)
                case atStart =>
                  have hkn : k = n4 := by omega
                  subst hkn
                  exact ⟨0, _, Nat.zero_le _, rfl, hQ0, hS0⟩
                case round =>
                  clear hQ0 hS0 hk hlt
                  obtain ⟨j, SV, hj, rfl, hQ, hS⟩ := hrel
                  by_cases hlt : j < n
                  · -- <<E
                    obtain ⟨rcs, hrb, hrc⟩ := hQ.row
                    have r2 := (hrb.cell j).trans (hrc j hlt)
                    have hch := hQ.chain hlt
                    have r3 := hch.cell 1
                    simp at r3
                    have hown := hQ.own hlt
                    have hlen := hQ.len j hlt
                    have hsz := hQ.ph.lt
                    clear hrb hrc hch a2 a3
                    go_wp2_with fail
                    refine (clone_any w.heap.size (V j) (Ws j) wr hown (by omega) (by omega)).mono ?_
                    rintro e w1 ⟨v', rfl, hown', hg1, hat⟩
                    obtain ⟨A3, cap3, rfl, _, _, _⟩ := owns_view hown'
                    obtain ⟨⟨scs, hsb, hss⟩, hQ', hS'⟩ := Snap.step hQ hS hlt hSN hown' hg1 hat
                    obtain ⟨xo, hxo⟩ : ∃ x, scs[j]? = some x := ⟨_, Array.getElem?_eq_getElem (by omega)⟩
                    have t1 := (hsb.cell j).trans hxo
                    have t2 := hsb.frozen j
                    clear r2 r3 hown hown' hg1 hat hsb hss hxo hQ hS hlen
                    go_wp2_with fail
                    go_roundw
                    case rel => exact ⟨j + 1, _, by omega, by go_num, hQ', hS'⟩
                    case measure => simp [intOf]; omega
                    -- E>>
                  · obtain rfl : n = j := by omega
                    have hmm := @run_makeMap Yba.prog
                    obtain ⟨i9, hi9, z9a, z9b, z9c⟩ := info_parts info9
                    obtain ⟨i3, hi3, z3a, z3b, z3c⟩ := info_parts info3
                    have hsz := hQ.ph.lt
                    go_wp2_with (at_make; refine wpList_make_own _ rfl _ _ 27 rfl w.heap.size 9 i9 (.string ⟨#[]⟩) 1 Yba.underlying27 hi9 z9a z9b .i64 .i64 _ n2 rfl rfl rfl (by rw [z9c]; omega) (by unfold maxLen; omega) (by simp; omega) ?_)
                    intro w2 hids hg2
                    have hsz2 : w.heap.size ≤ w2.heap.size := by have := hg2.size; simp at this; omega
                    go_wp2_with (at_make; refine wpList_make_own _ rfl _ _ 28 rfl w.heap.size 3 i3 (.int .i64 0) 1 Yba.underlying28 hi3 z3a z3b .i64 .i64 _ n2 rfl rfl rfl (by rw [z3c]; omega) (by unfold maxLen; omega) (by omega) ?_)
                    intro w3 hcof hg3
                    go_wp2_with fail
                    clear hmm
                    obtain ⟨cif, Hcif, hcifn⟩ : ∃ cif : Nat → Nat, Hid (∀ j, TC j % (n : Int) = (cif j : Int)) ∧ ∀ j, cif j < n :=
                      ⟨fun j => (TC j % (n : Int)).toNat, fun j => by rw [Int.toNat_of_nonneg (Int.emod_nonneg _ (by omega))], fun j => by
                        have h1 := Int.emod_lt_of_pos (TC j) (show (0 : Int) < n by omega)
                        have h2 := Int.emod_nonneg (TC j) (show (n : Int) ≠ 0 by omega)
                        show (TC j % (n : Int)).toNat < n
                        omega⟩
                    obtain ⟨h50, hs5, hb5⟩ := Ph5.start (CH := CH) (EB := EB) cif (Nat.le_of_lt hQ.ph.lt) hg2 hids hg3 hcof
                    have hQ3 := hQ.kept hs5 hb5 rfl rfl rfl rfl rfl
                    have hS3 := hS.kept hs5 rfl rfl
                    clear hids hcof hg2 hg3 hQ hS hs5 hb5 hsz hsz2
                    generalize wr.heap.size + 1 = QB at *
                    generalize wr.heap.size = MB at *
                    go_loopw [22, 23, 154] (fun ids cof i wq => ∃ (k : Nat) (A B : Option Addr) (ca cb : Nat), k ≤ n2 ∧ ids = .slice A k ca ∧ cof = .slice B k cb ∧ i = .int .i64 k ∧ Ph3 w CH n EB g wq V Ws n4 ∧ Snap w.heap.size n SN wq SV V Ws n ∧
                      Ph5 w.heap.size CH EB QB MB cif wq (.slice A k ca) (.slice B k cb) k k k) (fun _ _ i _ => n2 - (intOf i).toNat)
                    case atStart => exact ⟨0, _, _, _, _, Nat.zero_le _, rfl, rfl, rfl, hQ3, hS3, h50⟩
                    case round =>
                      obtain ⟨k, A, B, ca, cb, hk, rfl, rfl, rfl, hQ', hS', h5⟩ := hrel
                      by_cases hlt : k < n2
                      · -- <<F
                        obtain ⟨⟨b, o, rfl, hb, hcell⟩, g0, g1⟩ := a2 k hlt
                        have r1 := (hQ'.ph.below.cell (p := ⟨b, o + k, none⟩) hb).trans hcell
                        clear hcell hb a2 a3 hQ3 hS3 h50
                        obtain ⟨ci, hcie⟩ : ∃ ci, ci = cif k := ⟨_, rfl⟩
                        have hci : TC k % (n : Int) = (ci : Int) := by rw [hcie]; exact Hcif.out k
                        have hcin : ci < n := by rw [hcie]; exact hcifn k
                        have Hcie : Hid (ci = cif k) := hcie
                        clear hcie
                        have hcv := conv_id wr k
                        obtain ⟨rcs, hrb, hrc⟩ := hQ'.row
                        have r2 := (hrb.cell ci).trans (hrc ci hcin)
                        obtain ⟨qcs, hqb, hq4⟩ := h5.q
                        have r3 := (hqb.cell 4).trans hq4
                        have hl1 := hrb.lt
                        have hl2 := hqb.lt
                        clear hrb hrc hqb hq4
                        have hEBlt := hQ'.ent.lt
                        obtain ⟨w4, hupd, hs4, hb4, h54⟩ := h5.task (by omega) (c := ci) Hcie.out hEBlt (.cells #[.int .u8 116, .int .u8 ((k : Int) / 256), .int .u8 ((k : Int) % 256)] 5)
                        have hQ4 := hQ'.kept hs4 hb4 rfl rfl rfl rfl rfl
                        have hS4 := hS'.kept hs4 rfl rfl
                        clear h5 hs4 hb4
                        go_upto_region 38 with fail
                        go_region
                        clear hupd hcv r1 r2 r3
                        have hown1 := h54.ids
                        have hz4 := h54.size
                        go_wp2_with (at_builtin; refine wpList_append_own_at _ rfl _ _ 27 rfl w.heap.size 9 i9 (.string ⟨#[]⟩) 1 16 Yba.underlying27 hi9 z9a z9b z9c rfl (by decide) _ _ _ rfl (hown1.alloc _) ⟨w4.heap.size, 0, none⟩ 1 1 [.string (idOf k)] rfl rfl (cell_one_new _ _ _) (one_str _) (by unfold maxLen; omega) (by omega) (by simp; omega) ?_)
                        intro v5 w5 hown5 hg5 _ _
                        obtain ⟨A5, cap5, rfl, _, _, _⟩ := owns_view hown5
                        obtain ⟨s5, b5, h55⟩ := h54.appI hg5 hown5
                        have hQ5 := hQ4.kept s5 b5 rfl rfl rfl rfl rfl
                        have hS5 := hS4.kept s5 rfl rfl
                        clear hown5 hg5 s5 b5 hown1 h54 hQ4 hS4 hz4
                        have hown2 := h55.cof
                        have hz5 := h55.size
                        go_wp2_with (at_builtin; refine wpList_append_own_at _ rfl _ _ 28 rfl w.heap.size 3 i3 (.int .i64 0) 1 8 Yba.underlying28 hi3 z3a z3b z3c rfl (by decide) _ _ _ rfl (hown2.alloc _) ⟨w5.heap.size, 0, none⟩ 1 1 [.int .i64 (ci : Int)] rfl rfl (cell_one_new _ _ _) (one_int _) (by unfold maxLen; omega) (by omega) (by simp; omega) ?_)
                        intro v6 w6 hown6 hg6 _ _
                        obtain ⟨A6, cap6, rfl, _, _, _⟩ := owns_view hown6
                        obtain ⟨s6, b6, h56⟩ := h55.appC hg6 (by rw [Hcie.out]) hown6
                        have hQ6 := hQ5.kept s6 b6 rfl rfl rfl rfl rfl
                        have hS6 := hS5.kept s6 rfl rfl
                        clear hown6 hg6 s6 b6 hown2 h55 hQ5 hS5 hz5
                        go_wp2_with fail
                        go_roundw
                        case rel => exact ⟨k + 1, _, _, _, _, by omega, rfl, rfl, by go_num, hQ6, hS6, h56⟩
                        case measure => simp [intOf]; omega
                        -- F>>
                      · obtain rfl : n2 = k := by omega
                        clear a2 hQ3 hS3 h50
                        clear Hcif
                        go_upto_if 193 with fail
                        go_cut [28, 29] from 33 (fun va vb wq => ∃ (m : Nat) (sx : Nat → Nat) (A' B' : Option Addr) (ca' cb' : Nat), m ≤ 1024 ∧ (∀ j, j < m → sx j < n2) ∧ va = .slice A' m ca' ∧ vb = .slice B' m cb' ∧ Ph3 w CH n EB g wq V Ws n4 ∧ Snap w.heap.size n SN wq SV V Ws n ∧
                          Ph5 w.heap.size CH EB QB MB cif wq (.slice A n2 ca) (.slice B n2 cb) n2 n2 n2 ∧ Ph6 w.heap.size cif sx wq (.slice A n2 ca) (.slice B n2 cb) (.slice A' m ca') (.slice B' m cb') m m)
                        case first =>
                          have h60 : ∀ sx, Ph6 w.heap.size cif sx wr (.slice A n2 ca) (.slice B n2 cb) (.slice none 0 0) (.slice none 0 0) 0 0 := fun sx => ⟨World.ownsRow_nil _ _ _ _, World.ownsRow_nil _ _ _ _, .inl rfl, .inl rfl⟩
                          by_cases hn20 : n2 = 0
                          · have hd : decide (0 < n2) = false := by simp; omega
                            go_wp2_with fail
                            go_meet
                            case rel => exact ⟨0, fun _ => 0, none, none, 0, 0, by omega, fun j hj => absurd hj (by omega), rfl, rfl, hQ', hS', h5, h60 _⟩
                          · have hd : decide (0 < n2) = true := by simp; omega
                            obtain ⟨sx, Hsx, hsxn⟩ : ∃ sx : Nat → Nat, Hid (∀ j, AF j % (n2 : Int) = (sx j : Int)) ∧ ∀ j, sx j < n2 :=
                              ⟨fun j => (AF j % (n2 : Int)).toNat, fun j => by rw [Int.toNat_of_nonneg (Int.emod_nonneg _ (by omega))], fun j => by
                                have h1 := Int.emod_lt_of_pos (AF j) (show (0 : Int) < n2 by omega)
                                have h2 := Int.emod_nonneg (AF j) (show (n2 : Int) ≠ 0 by omega)
                                show (AF j % (n2 : Int)).toNat < n2
                                omega⟩
                            have h6s := h60 sx
                            clear h60
                            rw [hd]
                            go_wp2_with fail
                            go_loopw [28, 29, 196] (fun va vb i wq => ∃ (m : Nat) (A' B' : Option Addr) (ca' cb' : Nat), m ≤ n3 ∧ i = .int .i64 m ∧ va = .slice A' m ca' ∧ vb = .slice B' m cb' ∧ Ph3 w CH n EB g wq V Ws n4 ∧ Snap w.heap.size n SN wq SV V Ws n ∧
                              Ph5 w.heap.size CH EB QB MB cif wq (.slice A n2 ca) (.slice B n2 cb) n2 n2 n2 ∧ Ph6 w.heap.size cif sx wq (.slice A n2 ca) (.slice B n2 cb) (.slice A' m ca') (.slice B' m cb') m m) (fun _ _ i _ => n3 - (intOf i).toNat)
                            case atStart => exact ⟨0, _, _, _, _, Nat.zero_le _, rfl, rfl, rfl, hQ', hS', h5, h6s⟩
                            case round =>
                              clear hQ' hS' h5 h6s
                              obtain ⟨m, A', B', ca', cb', hm, rfl, rfl, rfl, hQ', hS', h5, h6⟩ := hrel
                              by_cases hlt3 : m < n3
                              · -- <<G
                                obtain ⟨⟨b, o, rfl, hb, hcell⟩, g0, g1⟩ := a3 m hlt3
                                have r1 := (hQ'.ph.below.cell (p := ⟨b, o + m, none⟩) hb).trans hcell
                                clear hcell hb a3
                                obtain ⟨sm, hsme⟩ : ∃ sm, sm = sx m := ⟨_, rfl⟩
                                have hsm : AF m % (n2 : Int) = (sm : Int) := by rw [hsme]; exact Hsx.out m
                                have hsmn : sm < n2 := by rw [hsme]; exact hsxn m
                                obtain ⟨gi, curi, hA, _, hbi, hci⟩ := owns_get h5.ids (range_get _ hsmn)
                                obtain ⟨gc, curc, hB, _, hbc, hcc⟩ := owns_get h5.cof (range_get _ hsmn)
                                subst hA hB
                                have r2 := (hbi.cell sm).trans hci
                                have Hsm : Hid (sm = sx m) := hsme
                                clear hsme hbi hci hbc hcc
                                have hown1 := h6.aid
                                have hz := h5.size
                                have hp9 := h6.aid
                                go_wp2_with (at_builtin; refine wpList_append_own_at _ rfl _ _ 27 rfl w.heap.size 9 i9 (.string ⟨#[]⟩) 1 16 Yba.underlying27 hi9 z9a z9b z9c rfl (by decide) _ _ _ rfl (hown1.alloc _) ⟨wr.heap.size, 0, none⟩ 1 1 [.string (idOf sm)] rfl rfl (cell_one_new _ _ _) (one_str _) (by unfold maxLen; omega) (by omega) (by simp; omega) ?_)
                                intro v5 w5 hown5 hg5 _ hat5
                                obtain ⟨A5, cap5, rfl, _, _, _⟩ := owns_view hown5
                                rw [Hsm.out] at hown5
                                obtain ⟨s5, b5, h55, h65⟩ := Ph6.appA h5 h6 hg5 hown5 hat5
                                have hQ5 := hQ'.kept s5 b5 rfl rfl rfl rfl rfl
                                have hS5 := hS'.kept s5 rfl rfl
                                clear hown5 hg5 s5 b5 hat5 hown1 hp9 h5 h6 hQ' hS' hz r1 r2
                                obtain ⟨gc', curc', hB', _, hbc', hcc'⟩ := owns_get h55.cof (range_get _ hsmn)
                                injection hB' with hB'
                                injection hB' with hB' _ _
                                subst hB'
                                have r3 := (hbc'.cell sm).trans hcc'
                                clear hbc' hcc'
                                have hown2 := h65.acf
                                have hz5 := h55.size
                                go_wp2_with (at_builtin; refine wpList_append_own_at _ rfl _ _ 28 rfl w.heap.size 3 i3 (.int .i64 0) 1 8 Yba.underlying28 hi3 z3a z3b z3c rfl (by decide) _ _ _ rfl (hown2.alloc _) ⟨w5.heap.size, 0, none⟩ 1 1 [.int .i64 (cif sm : Int)] rfl rfl (cell_one_new _ _ _) (one_int _) (by unfold maxLen; omega) (by omega) (by simp; omega) ?_)
                                intro v6 w6 hown6 hg6 _ hat6
                                obtain ⟨A6, cap6, rfl, _, _, _⟩ := owns_view hown6
                                rw [Hsm.out] at hown6
                                obtain ⟨s6, b6, h56, h66⟩ := Ph6.appB h55 h65 hg6 hown6 hat6
                                have hQ6 := hQ5.kept s6 b6 rfl rfl rfl rfl rfl
                                have hS6 := hS5.kept s6 rfl rfl
                                clear hown6 hg6 s6 b6 hat6 hown2 h55 h65 hQ5 hS5 hz5 r3
                                go_wp2_with fail
                                go_roundw
                                case rel => exact ⟨m + 1, _, _, _, _, by omega, by go_num, rfl, rfl, hQ6, hS6, h56, h66⟩
                                case measure => simp [intOf]; omega
                                -- G>>
                              · go_wp2_with fail
                                go_meet
                                case rel => exact ⟨m, sx, _, _, _, _, by omega, fun j _ => hsxn j, rfl, rfl, hQ', hS', h5, h6⟩
                        case rest =>
                          clear hQ' hS' h5 a3
                          obtain ⟨m, sx, A', B', ca', cb', hm, hsx, rfl, rfl, hQ', hS', h5, h6⟩ := hcut
                          have hres := hQ'.ph.res
                          obtain ⟨L, e1, e2, e3, e4, hC⟩ := assemble hn1 hn2 hm l4 hcifn hsx hQ' hS' h5 h6
                          have k0 := hres.cell 0
                          have k1 := hres.cell 1
                          have k2 := hres.cell 2
                          have k3 := hres.cell 3
                          have k4 := hres.cell 4
                          have k5 := hres.cell 5
                          simp only [zero30] at k0 k1 k2 k3 k4 k5
                          have q0 := hres.frozen 0
                          have q1 := hres.frozen 1
                          have q2 := hres.frozen 2
                          have q3 := hres.frozen 3
                          have q4 := hres.frozen 4
                          have q5 := hres.frozen 5
                          have hC6 := (((((hC.set hres (Nat.le_refl _) 0 (.pointer (some ⟨QB, 0, none⟩))).set (hres.set 0 _) (Nat.le_refl _) 1 (.pointer (some ⟨EB, 0, none⟩))).set ((hres.set 0 _).set 1 _) (Nat.le_refl _) 2 (.slice (some ⟨CH, 0, none⟩) n n)).set (((hres.set 0 _).set 1 _).set 2 _) (Nat.le_refl _) 3 (.slice (some ⟨SN, 0, none⟩) n n)).set ((((hres.set 0 _).set 1 _).set 2 _).set 3 _) (Nat.le_refl _) 4 (.slice A' m ca')).set (((((hres.set 0 _).set 1 _).set 2 _).set 3 _).set 4 _) (Nat.le_refl _) 5 (.slice B' m cb')
                          have hfin := (((((hres.set 0 (.pointer (some ⟨QB, 0, none⟩))).set 1 (.pointer (some ⟨EB, 0, none⟩))).set 2 (.slice (some ⟨CH, 0, none⟩) n n)).set 3 (.slice (some ⟨SN, 0, none⟩) n n)).set 4 (.slice A' m ca')).set 5 (.slice B' m cb')
                          have He : Hid (L.n = n ∧ L.CH = CH ∧ L.EB = EB ∧ L.QB = QB) := ⟨e1, e2, e3, e4⟩
                          clear e1 e2 e3 e4 hQ' hS' h5 h6 hC hres
                          go_wp2_with fail
                          refine bodyPost_ret (v := .agg #[.pointer (some ⟨QB, 0, none⟩), .pointer (some ⟨EB, 0, none⟩), .slice (some ⟨CH, 0, none⟩) n n, .slice (some ⟨SN, 0, none⟩) n n, .slice A' m ca', .slice B' m cb']) (by
                            have y0 := hfin.cell 0
                            have y1 := hfin.cell 1
                            have y2 := hfin.cell 2
                            have y3 := hfin.cell 3
                            have y4 := hfin.cell 4
                            have y5 := hfin.cell 5
                            simp [zero30] at y0 y1 y2 y3 y4 y5
                            simp [results, Yba.results5, go_sem, y0, y1, y2, y3, y4, y5]) rfl ?_
                          obtain ⟨e1, e2, e3, e4⟩ := He.out
                          exact ⟨L, SN, SV, V, Ws, _, _, by rw [e1, e2, e3, e4], hC6⟩
end Go.Proofs.Ybulkcfno
