/-
  The leaves: status (8), slices.Clone (9), waits.add (11).
-/
import Derived.Test.YbulkcfnoRows
import Derived.Test.YbulkcfnoHeap
import Derived.WalkKit
import Derived.WalkSpells
namespace Go.Proofs.Ybulkcfno
open Go Go.RowKit

def sPending : ByteArray := ⟨#[112, 101, 110, 100, 105, 110, 103]⟩
def sDeferred : ByteArray := ⟨#[100, 101, 102, 101, 114, 114, 101, 100]⟩
def sImpossible : ByteArray := ⟨#[105, 109, 112, 111, 115, 115, 105, 98, 108, 101]⟩
def sSuccess : ByteArray := ⟨#[115, 117, 99, 99, 101, 115, 115]⟩

/-- The status that a byte picks. -/
def stat (x : Int) : ByteArray := if x % 4 = 0 then sPending else if x % 4 = 1 then sDeferred else if x % 4 = 2 then sImpossible else sSuccess

theorem status_any (x : Int) (w : World) (h0 : 0 ≤ x) (h1 : x ≤ 255) :
    Calls Yba.prog 8 #[.int .u8 x] w fun e w' => e = .returned (.string (stat x)) ∧ w = w' := by
  by_cases c0 : x % 4 = 0
  · have hs : stat x = sPending := by simp [stat, c0]
    rw [hs]
    go_enter Yba.func8, Yba.ntmps8
    go_wp2
    go_ret
    exact ⟨rfl, rfl⟩
  by_cases c1 : x % 4 = 1
  · have hs : stat x = sDeferred := by simp [stat, c1]
    rw [hs]
    go_enter Yba.func8, Yba.ntmps8
    go_wp2
    go_ret
    exact ⟨rfl, rfl⟩
  by_cases c2 : x % 4 = 2
  · have hs : stat x = sImpossible := by simp [stat, c2]
    rw [hs]
    go_enter Yba.func8, Yba.ntmps8
    go_wp2
    go_ret
    exact ⟨rfl, rfl⟩
  · have hs : stat x = sSuccess := by simp [stat, c0, c1, c2]
    rw [hs]
    go_enter Yba.func8, Yba.ntmps8
    go_wp2
    go_ret
    exact ⟨rfl, rfl⟩

/-- The cells of a list of waiters: each an entry's block and a count. -/
def wcells : List (Nat × Int) → List Value
  | [] => []
  | p :: r => .pointer (some ⟨p.1, 0, none⟩) :: .int .i64 p.2 :: wcells r

theorem wcells_length : ∀ l : List (Nat × Int), (wcells l).length = l.length * 2
  | [] => rfl
  | p :: r => by simp [wcells, wcells_length r]; omega

theorem wcells_append : ∀ a b : List (Nat × Int), wcells (a ++ b) = wcells a ++ wcells b
  | [], b => rfl
  | p :: r, b => by simp [wcells, wcells_append r b]

theorem wcells_one : ∀ l : List (Nat × Int), ∀ u ∈ wcells l, u.oneCell' = true
  | [], u, h => by simp [wcells] at h
  | p :: r, u, h => by
    simp only [wcells, List.mem_cons] at h
    rcases h with rfl | rfl | h
    · rfl
    · rfl
    · exact wcells_one r u h

theorem wcells_get : ∀ (l : List (Nat × Int)) (i : Nat) (hi : i < l.length), (wcells l)[i * 2]? = some (.pointer (some ⟨l[i].1, 0, none⟩)) ∧ (wcells l)[i * 2 + 1]? = some (.int .i64 l[i].2)
  | [], i, h => by simp at h
  | p :: r, 0, h => by simp [wcells]
  | p :: r, i + 1, h => by
    have := wcells_get r i (by simpa using h)
    simp only [wcells]
    rw [show (i + 1) * 2 = i * 2 + 1 + 1 by omega]
    simpa using this

theorem info41 : (Yba.prog.info? 41).map (fun i => (i.zero, i.size, i.bytes)) = some (some (.agg #[.pointer none, .int .i64 0]), 2, 16) := by kernel_rfl

/-- slices.Clone of a row of waiters that the call owns: the same waiters in a row of its own, all that was there as it was. -/
theorem clone_any (base : Nat) (v : Value) (l : List (Nat × Int)) (w : World) (ho : w.ownsRow base 41 2 v l.length (wcells l)) (hb : base ≤ w.heap.size) (hl : l.length ≤ 4096) :
    Calls Yba.prog 9 #[v] w fun e w' => ∃ v', e = .returned v' ∧ w'.ownsRow base 41 2 v' l.length (wcells l) ∧ w.grownBy w' none ∧ (v'.ownBlock = none ∨ ∃ g, v'.ownBlock = some g ∧ w.heap.size ≤ g) := by
  obtain ⟨i0, hi, hz0, hz1, hz2⟩ := info_parts info41
  have hsn := @Lib.run_eql_slice_nil Yba.prog
  rcases ho.2 with ⟨rfl, hn⟩ | ⟨g, cap, cur, rfl, hg, hblk, hle, hm, hsz, htake⟩
  · go_enter Yba.func9, Yba.ntmps9
    go_wp2
    go_ret
    exact ⟨_, rfl, ho, World.grownBy.refl _ _, .inl rfl⟩
  · have hcell := ho.cells (g := g) rfl
    clear hblk hle hm hsz htake cur
    have Ho : Hid (w.ownsRow base 41 2 (.slice (some ⟨g, 0, none⟩) l.length cap) l.length (wcells l)) := ho
    have Hc : Hid (∀ j u, (wcells l)[j]? = some u → w.cell? ((⟨g, 0, none⟩ : Addr).add j) = some u) := hcell
    clear ho hcell
    have hlt : g < w.heap.size := (Ho.out.lt g rfl).2
    go_enter Yba.func9, Yba.ntmps9
    go_wp2_with (at_builtin; refine wpList_append_own_at _ rfl _ _ 34 rfl base 41 i0 (.agg #[.pointer none, .int .i64 0]) 2 16 Yba.underlying34 hi hz0 hz1 hz2 rfl (by decide) _ 0 [] rfl (World.ownsRow_made (base := base) (e := 41) (size := 2) w #[] 0 hb (Nat.zero_le _) rfl) ⟨g, 0, none⟩ l.length cap (wcells l) rfl (wcells_length l) ?_ (wcells_one l) (by unfold maxLen; omega) (by omega) (by simp; omega) ?_)
    · intro j u hj
      have := Hc.out j u hj
      rw [Go.WideShapes.add_plain] at this ⊢
      rw [World.cell?_alloc_past _ _ _ hlt]
      exact this
    · intro v' w1 hown hgrow _ hat
      have hg1 : w.grownBy w1 none := by
        have a1 := World.grownBy_alloc w (.cells #[] 41) none
        refine ⟨hgrow.os.trans a1.os, hgrow.tape.trans a1.tape, hgrow.output.trans a1.output, Nat.le_trans a1.size hgrow.size, fun k hk _ => ?_⟩
        rw [hgrow.block k (by simp; omega) (by simp [Value.ownBlock]; omega)]
        exact a1.block k hk (by simp)
      have hat' : v'.ownBlock = none ∨ ∃ g, v'.ownBlock = some g ∧ w.heap.size ≤ g := by
        right
        rcases hat with h | h
        · exact ⟨_, by rw [h]; rfl, Nat.le_refl _⟩
        · exact ⟨_, h, by simp⟩
      clear hgrow hat
      go_wp2
      go_ret
      exact ⟨_, rfl, hown, hg1, hat'⟩

/-- Is the status 'deferred', 'impossible'? As the walk asks it. -/
def isD (g : ByteArray) : Bool := g.toList == [100, 101, 102, 101, 114, 114, 101, 100]
def isI (g : ByteArray) : Bool := g.toList == [105, 109, 112, 111, 115, 115, 105, 98, 108, 101]
def addD (g : ByteArray) (d : Int) : Int := if isD g then d + 1 else d
def addI (g : ByteArray) (d : Int) : Int := if isI g then d + 1 else d

theorem isI_of_isD {g : ByteArray} (h : isD g = true) : isI g = false := by
  unfold isD at h
  unfold isI
  rw [beq_iff_eq] at h
  rw [h]
  rfl

theorem grownBy_set (w : World) (b i : Nat) (v : Value) : w.grownBy (w.setCell ⟨b, i, none⟩ v) (some b) :=
  ⟨rfl, rfl, rfl, by simp, fun k hk hne => Below.heap_setCell _ _ _ _ (fun e => hne (by rw [e]))⟩

theorem add_any (b : Nat) (d m : Int) (g : ByteArray) (w : World) (hb : Blk w b 44 #[.int .i64 d, .int .i64 m]) (hd0 : -10 ≤ d) (hd : d ≤ 4096) (hm0 : -10 ≤ m) (hm : m ≤ 4096) :
    Calls Yba.prog 11 #[.pointer (some ⟨b, 0, none⟩), .string g, .int .i64 1] w fun e w' => e = .returned (.tuple #[]) ∧ Blk w' b 44 #[.int .i64 (addD g d), .int .i64 (addI g m)] ∧ w.grownBy w' (some b) := by
  have c0 := hb.cell 0
  have c1 := hb.cell 1
  simp at c0 c1
  have f0 := hb.frozen 0
  have f1 := hb.frozen 1
  by_cases e1 : isD g = true
  · have e2 := isI_of_isD e1
    have hB : Blk (w.setCell ⟨b, 0, none⟩ (.int .i64 (d + 1))) b 44 #[.int .i64 (addD g d), .int .i64 (addI g m)] := by
      have := hb.set 0 (.int .i64 (d + 1))
      simpa [addD, addI, e1, e2] using this
    unfold isD at e1
    clear hb e2
    go_enter Yba.func11, Yba.ntmps11
    go_wp2
    go_end0
    exact ⟨rfl, hB, grownBy_set _ _ _ _⟩
  · have e1' : isD g = false := by simpa using e1
    clear e1
    by_cases e2 : isI g = true
    · have hB : Blk (w.setCell ⟨b, 1, none⟩ (.int .i64 (m + 1))) b 44 #[.int .i64 (addD g d), .int .i64 (addI g m)] := by
        have := hb.set 1 (.int .i64 (m + 1))
        simpa [addD, addI, e1', e2] using this
      unfold isD at e1'
      unfold isI at e2
      clear hb
      go_enter Yba.func11, Yba.ntmps11
      go_wp2
      go_end0
      exact ⟨rfl, hB, grownBy_set _ _ _ _⟩
    · have e2' : isI g = false := by simpa using e2
      clear e2
      have hB : Blk w b 44 #[.int .i64 (addD g d), .int .i64 (addI g m)] := by
        simpa [addD, addI, e1', e2'] using hb
      unfold isD at e1'
      unfold isI at e2'
      clear hb
      go_enter Yba.func11, Yba.ntmps11
      go_wp2
      go_end0
      exact ⟨rfl, hB, World.grownBy.refl _ _⟩

end Go.Proofs.Ybulkcfno
