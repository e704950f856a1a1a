/-
  (*Queue).Schedule (7).
-/
import Derived.Test.YbulkcfnoFmtUnlock
namespace Go.Proofs.YbulkcfnoFmt
open Go Go.RowKit Go.Extern.Stop Go.Stop Go.Extern Go.MuLone

/-- What stands when Schedule is called: the queue and the closure's three variables, the map. -/
structure Stands (w : World) (qb cb fb sb mb n : Nat) (sl : Value) (fl : Bool) (p : Addr) (f : ByteArray → Value) (h : ByteArray → Bool) : Prop where
  q : Blk w qb 50 (qCells 0 (syncV cb fb sb) mb sl)
  c : Blk w cb 3 #[.int .i64 0]
  fl : Blk w fb 4 #[.bool fl]
  s : Blk w sb 52 #[.iface 73 (.pointer (some p))]
  m : MapIs Ybaf.prog 9 (.pointer none) w mb n f h

theorem MapIs.ne {k : TypeId} {z : Value} {w : World} {mb n b : Nat} {f : ByteArray → Value} {h : ByteArray → Bool} (m : MapIs Ybaf.prog k z w mb n f h) {t : TypeId} {cs : Array Value} (hb : Blk w b t cs) : mb ≠ b := by
  intro e
  subst e
  exact m.noCells hb

/-- What stands behind Lock: two new variables for the results; the lock taken. -/
structure Locked (w W : World) (qb cb fb sb mb n : Nat) (sl : Value) (fl : Bool) (p : Addr) (f : ByteArray → Value) (h : ByteArray → Bool) : Prop where
  q : Blk W qb 50 (qCells 1 (syncV cb fb sb) mb sl)
  c : Blk W cb 3 #[.int .i64 0]
  fl : Blk W fb 4 #[.bool fl]
  s : Blk W sb 52 #[.iface 73 (.pointer (some p))]
  m : MapIs Ybaf.prog 9 (.pointer none) W mb n f h
  r1 : Blk W w.heap.size 61 zero61
  r2 : Blk W (w.heap.size + 1) 52 #[.nilIface]
  os : W.os = w.os
  tape : W.tape = w.tape
  output : W.output = w.output
  size : W.heap.size = w.heap.size + 2
  old : ∀ b, b < w.heap.size → b ≠ qb → W.heap[b]? = w.heap[b]?

theorem locked {qb cb fb sb mb n : Nat} {sl : Value} {fl : Bool} {p : Addr} {f : ByteArray → Value} {h : ByteArray → Bool} {w : World} (st : Stands w qb cb fb sb mb n sl fl p f h) :
    Locked w (((w.alloc (.cells zero61 61)).alloc (.cells #[.nilIface] 52)).setCell ⟨qb, 2, none⟩ (.int .i32 1)) qb cb fb sb mb n sl fl p f h := by
  obtain ⟨hq, hc, hf, hs, hm⟩ := st
  have hqc := hq.ne hc (by decide)
  have hqf := hq.ne hf (by decide)
  have hqs := hq.ne hs (by decide)
  have hqm := hm.ne hq
  have old : ∀ b, b < w.heap.size → b ≠ qb → (((w.alloc (.cells zero61 61)).alloc (.cells #[.nilIface] 52)).setCell ⟨qb, 2, none⟩ (.int .i32 1)).heap[b]? = w.heap[b]? := fun b hb hne => by
    rw [Below.heap_setCell _ _ _ _ hne, Below.heap_alloc _ _ _ (by rw [World.size_alloc]; omega), Below.heap_alloc _ _ _ hb]
  refine ⟨?_, ?_, ?_, ?_, ?_, ?_, ?_, rfl, rfl, rfl, ?_, old⟩
  · exact ((hq.alloc _).alloc _).set 2 _
  · exact ((hc.alloc _).alloc _).setOther hqc _ _
  · exact ((hf.alloc _).alloc _).setOther hqf _ _
  · exact ((hs.alloc _).alloc _).setOther hqs _ _
  · exact hm.same (old mb hm.lt hqm)
  · exact ((blk_new w 61 zero61).alloc _).setOther (by have := hq.lt; omega) _ _
  · have := (blk_new (w.alloc (.cells zero61 61)) 52 #[.nilIface])
    rw [World.size_alloc] at this
    exact this.setOther (by have := hq.lt; omega) _ _
  · simp [World.setCell, World.size_alloc]

/-- Of the old blocks only those of S have turned. -/
structure But (S : List Nat) (w w' : World) : Prop where
  os : w'.os = w.os
  tape : w'.tape = w.tape
  output : w'.output = w.output
  size : w.heap.size ≤ w'.heap.size
  old : ∀ b, b < w.heap.size → b ∉ S → w'.heap[b]? = w.heap[b]?

theorem But.set {S : List Nat} {w w' : World} (h : But S w w') {b : Nat} (hb : b ∈ S ∨ w.heap.size ≤ b) (i : Nat) (v : Value) : But S w (w'.setCell ⟨b, i, none⟩ v) :=
  ⟨h.os, h.tape, h.output, by simpa [World.setCell] using h.size, fun k hk hn => by
    rw [Below.heap_setCell _ _ _ _ (show k ≠ b by rintro rfl; rcases hb with hb | hb; exact hn hb; omega)]
    exact h.old k hk hn⟩

theorem But.below {S : List Nat} {w w' w'' : World} (h : But S w w') (hb : Below w'.heap.size w' w'') : But S w w'' :=
  ⟨hb.os.trans h.os, hb.tape.trans h.tape, hb.output.trans h.output, Nat.le_trans h.size hb.size, fun k hk hn => (hb.block k (Nat.lt_of_lt_of_le hk h.size)).trans (h.old k hk hn)⟩

theorem But.mono {S S' : List Nat} {w w' : World} (h : But S w w') (hS : ∀ b ∈ S, b ∈ S') : But S' w w' := ⟨h.os, h.tape, h.output, h.size, fun k hk hn => h.old k hk fun hm => hn (hS k hm)⟩

theorem Locked.but {w W : World} {qb cb fb sb mb n : Nat} {sl : Value} {fl : Bool} {p : Addr} {f : ByteArray → Value} {h : ByteArray → Bool} (lk : Locked w W qb cb fb sb mb n sl fl p f h) : But [qb] w W :=
  ⟨lk.os, lk.tape, lk.output, by rw [lk.size]; omega, fun b hb hn => lk.old b hb (by simpa using hn)⟩

/-- What stands at the door, and what unlock makes of it. -/
theorem unl_facts {w W : World} {qb cb fb sb mb : Nat} {sl old : Value} {fl : Bool} {p : Addr} {v1 : Array Value} {cs : Array Value}
    (hqw : Blk w qb 50 (qCells 0 (syncV cb fb sb) mb sl)) (hcw : Blk w cb 3 cs)
    (hq : Blk W qb 50 (qCells 1 (syncV cb fb sb) mb sl)) (hc : Blk W cb 3 #[.int .i64 0]) (hk1 : Blk W w.heap.size 61 v1) (hk2 : Blk W (w.heap.size + 1) 52 #[old]) (hbut : But [qb] w W) (hcs : cs = #[.int .i64 0]) :
    Below w.heap.size (w.setCell ⟨cb, 0, none⟩ (.int .i64 1)) (unlW fl p qb cb (w.heap.size + 1) W) ∧ Blk (unlW fl p qb cb (w.heap.size + 1) W) w.heap.size 61 v1 ∧ Blk (unlW fl p qb cb (w.heap.size + 1) W) (w.heap.size + 1) 52 #[if fl then said fl p else old] := by
  subst hcs
  have hqc := hq.ne hc (by decide)
  have hq1 := hq.ne hk1 (by decide)
  have hq2 := hq.ne hk2 (by decide)
  have hc1 := hc.ne hk1 (by decide)
  have hc2 := hc.ne hk2 (by decide)
  have h12 := hk1.ne hk2 (by decide)
  have hlq := hqw.lt
  have hlc := hcw.lt
  have bl : ∀ wf, But [qb, cb] w wf → Blk wf qb 50 (qCells 0 (syncV cb fb sb) mb sl) → Blk wf cb 3 #[.int .i64 1] → Below w.heap.size (w.setCell ⟨cb, 0, none⟩ (.int .i64 1)) wf := fun wf hb h1 h2 => by
    refine ⟨hb.os, hb.tape, hb.output, by simpa [World.setCell] using hb.size, fun k hk => ?_⟩
    by_cases e1 : k = cb
    · subst e1
      have := hcw.set 0 (.int .i64 1)
      exact h2.trans this.symm
    · rw [Below.heap_setCell _ _ _ _ (show k ≠ cb from e1)]
      by_cases e2 : k = qb
      · subst e2
        exact h1.trans hqw.symm
      · exact hb.old k hk (by simp [e1, e2])
  have b1 : But [qb, cb] w ((W.setCell ⟨qb, 2, none⟩ (.int .i32 0)).setCell ⟨cb, 0, none⟩ (.int .i64 1)) := ((hbut.mono (by simp)).set (.inl (by simp)) 2 _).set (.inl (by simp)) 0 _
  have x1 : Blk ((W.setCell ⟨qb, 2, none⟩ (.int .i32 0)).setCell ⟨cb, 0, none⟩ (.int .i64 1)) qb 50 (qCells 0 (syncV cb fb sb) mb sl) := (hq.set 2 (.int .i32 0)).setOther (Ne.symm hqc) 0 _
  have x2 : Blk ((W.setCell ⟨qb, 2, none⟩ (.int .i32 0)).setCell ⟨cb, 0, none⟩ (.int .i64 1)) cb 3 #[.int .i64 1] := (hc.setOther hqc 2 (.int .i32 0)).set 0 _
  have x3 := (hk1.setOther hq1 2 (.int .i32 0)).setOther hc1 0 (.int .i64 1)
  have x4 := (hk2.setOther hq2 2 (.int .i32 0)).setOther hc2 0 (.int .i64 1)
  cases fl with
  | true =>
    exact ⟨bl _ (b1.set (.inr (by omega)) 0 _) (x1.setOther (Ne.symm hq2) 0 _) (x2.setOther (Ne.symm hc2) 0 _), x3.setOther (Ne.symm h12) 0 _, x4.set 0 _⟩
  | false => exact ⟨bl _ b1 x1 x2, x3, x4⟩

/-- A row of stores. -/
def setRow (w : World) (b : Nat) : Nat → List Value → World
  | _, [] => w
  | i, v :: l => setRow (w.setCell ⟨b, i, none⟩ v) b (i + 1) l

theorem setRow_blk_aux {b : Nat} {t : TypeId} : ∀ (l rest pre : List Value) (w : World), rest.length = l.length → Blk w b t (pre ++ rest).toArray → Blk (setRow w b pre.length l) b t (pre ++ l).toArray
  | [], rest, pre, _, hl, h => by
    obtain rfl : rest = [] := List.eq_nil_of_length_eq_zero hl
    exact h
  | v :: l, r :: rest, pre, w, hl, h => by
    have h1 := h.set pre.length v
    have e : (pre ++ r :: rest).toArray.setIfInBounds pre.length v = ((pre ++ [v]) ++ rest).toArray := by
      simp
    rw [e] at h1
    have := setRow_blk_aux l rest (pre ++ [v]) (w.setCell ⟨b, pre.length, none⟩ v) (by simpa using hl) h1
    simpa [setRow] using this
  | _ :: _, [], _, _, hl, _ => by simp at hl

theorem setRow_blk {b : Nat} {t : TypeId} {w : World} {cs cs' : Array Value} (h : Blk w b t cs) (hl : cs.size = cs'.size) : Blk (setRow w b 0 cs'.toList) b t cs' := by
  have := setRow_blk_aux cs'.toList cs.toList [] w (by simpa using hl) (by simpa using h)
  simpa using this

theorem setRow_other {b k : Nat} {t : TypeId} {cs : Array Value} (hne : b ≠ k) : ∀ (l : List Value) (i : Nat) (w : World), Blk w k t cs → Blk (setRow w b i l) k t cs
  | [], _, _, h => h
  | _ :: l, i, _, h => setRow_other hne l (i + 1) _ (h.setOther hne i _)

theorem setRow_but {S : List Nat} {w : World} {b : Nat} (hb : b ∈ S ∨ w.heap.size ≤ b) : ∀ (l : List Value) (i : Nat) (w' : World), But S w w' → But S w (setRow w' b i l)
  | [], _, _, h => h
  | _ :: l, i, _, h => setRow_but hb l (i + 1) _ (h.set hb i _)

set_option maxRecDepth 100000 in
set_option maxHeartbeats 2000000 in
theorem sched_found {qb cb fb sb mb n : Nat} {sl : Value} {fl : Bool} {p : Addr} {f : ByteArray → Value} {h : ByteArray → Bool} {w : World} (st : Stands w qb cb fb sb mb n sl fl p f h) (id : ByteArray) (hid : id.size ≤ maxLen) (hh : h id = true) (eb : Nat) (hf : f id = .pointer (some ⟨eb, 0, none⟩)) (s : Sch) (he : Blk w eb 65 s.entry) :
    Calls Ybaf.prog 7 #[.pointer (some ⟨qb, 0, none⟩), .string id] w fun e w' => e = .returned (.tuple #[.agg s.view, said fl p]) ∧ Below w.heap.size (w.setCell ⟨cb, 0, none⟩ (.int .i64 1)) w' := by
  have q2 := ((st.q.alloc (.cells zero61 61)).alloc (.cells #[.nilIface] 52)).cell 2
  have q2z := ((st.q.alloc (.cells zero61 61)).alloc (.cells #[.nilIface] 52)).frozen 2
  simp [qCells] at q2
  have lk := locked st
  have heq : eb ≠ qb := he.ne st.q (by decide)
  have heW : Blk (((w.alloc (.cells zero61 61)).alloc (.cells #[.nilIface] 52)).setCell ⟨qb, 2, none⟩ (.int .i32 1)) eb 65 s.entry := by
    unfold Blk
    rw [lk.old eb he.lt heq]
    exact he
  unfold zero61 at lk q2 q2z heW
  go_enter_defers Ybaf.func7, Ybaf.ntmps7
  go_wp2_with fail
  refine (lock_free muLib ⟨qb, 2, none⟩ _ q2 q2z).mono ?_
  rintro e w1 ⟨rfl, rfl⟩
  clear q2 q2z
  go_wp2_with fail
  generalize (World.setCell _ _ _ : World) = W1 at lk heW ⊢
  have q18 := lk.q.cell 18
  simp [qCells] at q18
  refine (look_found qb mb n f h id eb W1 q18 lk.m hid hh hf).mono ?_
  rintro e w2 ⟨rfl, rfl⟩
  have r2 := lk.r2.cell 0
  have r2z := lk.r2.frozen 0
  simp at r2
  go_wp2_with fail
  rw [setCell_same_val W1 _ _ r2]
  refine (view_any s eb W1 heW).mono ?_
  rintro e w3 ⟨rfl, hb3⟩
  have k1 := below_blk hb3 lk.r1 lk.r1.lt
  have k2 := below_blk hb3 lk.r2 lk.r2.lt
  have z1 : ∀ i, w3.frozen? ⟨w.heap.size, i, none⟩ = false := fun i => k1.frozen i
  have z2 : w3.frozen? ⟨w.heap.size + 1, 0, none⟩ = false := k2.frozen 0
  have g2 := k2.cell 0
  have a0 := k1.cell 0
  have a1 := k1.cell 1
  have a2 := k1.cell 2
  have a3 := k1.cell 3
  have a4 := k1.cell 4
  have a5 := k1.cell 5
  have a6 := k1.cell 6
  have a7 := k1.cell 7
  have a8 := k1.cell 8
  have a9 := k1.cell 9
  have a10 := k1.cell 10
  have a11 := k1.cell 11
  have a12 := k1.cell 12
  have a13 := k1.cell 13
  simp [zero61] at a0 a1 a2 a3 a4 a5 a6 a7 a8 a9 a10 a11 a12 a13
  simp at g2
  unfold Sch.view
  clear r2 r2z q18
  go_wp2_with fail
  have hn12 : w.heap.size ≠ w.heap.size + 1 := by omega
  have hE : ((((((((((((((w3.setCell ⟨w.heap.size, 0, none⟩ (.string s.id)).setCell ⟨w.heap.size, 1, none⟩ (.string s.nm)).setCell ⟨w.heap.size, 2, none⟩ (.string ⟨#[]⟩)).setCell ⟨w.heap.size, 3, none⟩ (.string s.sp)).setCell ⟨w.heap.size, 4, none⟩ (.slice s.A s.n s.cap)).setCell ⟨w.heap.size, 5, none⟩ (.int .u64 (tNs s.cr))).setCell ⟨w.heap.size, 6, none⟩ (.int .i64 (tSec s.cr))).setCell ⟨w.heap.size, 7, none⟩ (.pointer none)).setCell ⟨w.heap.size, 8, none⟩ (.int .u64 0)).setCell ⟨w.heap.size, 9, none⟩ (.int .i64 0)).setCell ⟨w.heap.size, 10, none⟩ (.pointer none)).setCell ⟨w.heap.size, 11, none⟩ (.int .u64 (tNs s.nx))).setCell ⟨w.heap.size, 12, none⟩ (.int .i64 (tSec s.nx))).setCell ⟨w.heap.size, 13, none⟩ (.pointer none)) = setRow w3 w.heap.size 0 s.view.toList := rfl
  rw [hE]
  have K1 : Blk (setRow w3 w.heap.size 0 s.view.toList) w.heap.size 61 s.view := setRow_blk k1 rfl
  have K2 : Blk (setRow w3 w.heap.size 0 s.view.toList) (w.heap.size + 1) 52 #[.nilIface] := setRow_other hn12 s.view.toList 0 w3 k2
  have KB : But [qb] w (setRow w3 w.heap.size 0 s.view.toList) := setRow_but (.inr (Nat.le_refl _)) s.view.toList 0 w3 (lk.but.below hb3)
  have hin : ∀ b t cs, Blk w3 b t cs → b < w.heap.size → Blk (setRow w3 w.heap.size 0 s.view.toList) b t cs := fun b t cs hb hlt => setRow_other (show w.heap.size ≠ b by omega) s.view.toList 0 w3 hb
  clear hE
  generalize setRow w3 w.heap.size 0 s.view.toList = W3 at K1 K2 KB hin ⊢
  have e3 : W3.setCell ⟨w.heap.size + 1, 0, none⟩ .nilIface = W3 := setCell_same_val W3 _ _ (by rw [K2.cell 0]; rfl)
  rw [e3]
  have hlq := st.q.lt
  have hlc := st.c.lt
  have hlf := st.fl.lt
  have hls := st.s.lt
  have Q := hin qb _ _ (below_blk hb3 lk.q lk.q.lt) hlq
  have C := hin cb _ _ (below_blk hb3 lk.c lk.c.lt) hlc
  have FB := hin fb _ _ (below_blk hb3 lk.fl lk.fl.lt) hlf
  have S := hin sb _ _ (below_blk hb3 lk.s lk.s.lt) hls
  clear hin e3 a0 a1 a2 a3 a4 a5 a6 a7 a8 a9 a10 a11 a12 a13 g2 z1 z2 k1 k2
  obtain ⟨hbl, k1, k2⟩ := unl_facts (fl := fl) (p := p) st.q st.c Q C K1 K2 KB rfl
  refine leaves_cons (f := 18) (args := #[.pointer (some ⟨qb, 0, none⟩), .pointer (some ⟨w.heap.size + 1, 0, none⟩)]) (by simp) (by simp [go_sem]) ?_
  refine (unlock_any qb cb fb sb (w.heap.size + 1) mb sl .nilIface fl p .returning W3 Q C FB S K2).mono ?_
  rintro e u' w5 ⟨rfl, rfl, rfl⟩
  generalize unlW fl p qb cb (w.heap.size + 1) W3 = W5 at hbl k1 k2 ⊢
  have hsaid : (if fl = true then said fl p else .nilIface) = said fl p := by cases fl <;> rfl
  rw [hsaid] at k2
  refine ⟨.tuple #[.agg s.view, said fl p], ?_, rfl, hbl⟩
  have a0 := k1.cell 0
  have a1 := k1.cell 1
  have a2 := k1.cell 2
  have a3 := k1.cell 3
  have a4 := k1.cell 4
  have a5 := k1.cell 5
  have a6 := k1.cell 6
  have a7 := k1.cell 7
  have a8 := k1.cell 8
  have a9 := k1.cell 9
  have a10 := k1.cell 10
  have a11 := k1.cell 11
  have a12 := k1.cell 12
  have a13 := k1.cell 13
  have c0 := k2.cell 0
  simp [Sch.view] at a0 a1 a2 a3 a4 a5 a6 a7 a8 a9 a10 a11 a12 a13
  simp at c0
  cases fl <;> simp [results, Ybaf.results7, go_sem, Sch.view, said, *]

/-- The error of a look-up that found nothing. -/
def errOf (fl : Bool) (p : Addr) (N : Nat) : Value := if fl then said fl p else .iface 113 (.pointer (some ⟨N, 0, none⟩))

set_option maxRecDepth 100000 in
set_option maxHeartbeats 2000000 in
theorem sched_none (F : Interp) (a : Addr) (t : ByteArray) {qb cb fb sb mb n : Nat} {sl : Value} {fl : Bool} {p : Addr} {f : ByteArray → Value} {h : ByteArray → Bool} {w : World} (st : Stands w qb cb fb sb mb n sl fl p f h) (id : ByteArray) (hid : id.size ≤ maxLen) (hh : h id = false)
    (hF : F.answers w.tape) (hg : w.cell? ⟨0, 0, none⟩ = some (.iface 73 (.pointer (some a)))) (ha : w.cell? a = some (.string t)) (hq0 : qb ≠ 0) (haq : a.block ≠ qb) :
    Calls Ybaf.prog 7 #[.pointer (some ⟨qb, 0, none⟩), .string id] w fun e w' => ∃ N, e = .returned (.tuple #[.agg zero61, errOf fl p N]) ∧ w'.cell? ⟨N, 1, none⟩ = some (.iface 73 (.pointer (some a))) ∧ Below w.heap.size (w.setCell ⟨cb, 0, none⟩ (.int .i64 1)) w' := by
  have q2 := ((st.q.alloc (.cells zero61 61)).alloc (.cells #[.nilIface] 52)).cell 2
  have q2z := ((st.q.alloc (.cells zero61 61)).alloc (.cells #[.nilIface] 52)).frozen 2
  simp [qCells] at q2
  have lk := locked st
  have hgW : (((w.alloc (.cells zero61 61)).alloc (.cells #[.nilIface] 52)).setCell ⟨qb, 2, none⟩ (.int .i32 1)).cell? ⟨0, 0, none⟩ = some (.iface 73 (.pointer (some a))) := by
    rw [World.cell?_of_block (a := ⟨0, 0, none⟩) (lk.old 0 (World.block_lt_of_cell? w _ hg) (Ne.symm hq0))]
    exact hg
  have haW : (((w.alloc (.cells zero61 61)).alloc (.cells #[.nilIface] 52)).setCell ⟨qb, 2, none⟩ (.int .i32 1)).cell? a = some (.string t) := by
    rw [World.cell?_of_block (lk.old a.block (World.block_lt_of_cell? w _ ha) haq)]
    exact ha
  unfold zero61 at lk q2 q2z hgW haW
  go_enter_defers Ybaf.func7, Ybaf.ntmps7
  go_wp2_with fail
  refine (lock_free muLib ⟨qb, 2, none⟩ _ q2 q2z).mono ?_
  rintro e w1 ⟨rfl, rfl⟩
  clear q2 q2z
  go_wp2_with fail
  generalize (World.setCell _ _ _ : World) = W1 at lk hgW haW ⊢
  have q18 := lk.q.cell 18
  simp [qCells] at q18
  have hF1 : F.answers W1.tape := by rw [lk.tape]; exact hF
  refine (look_none F a t qb mb n f h id W1 hF1 hgW haW q18 lk.m hid hh).mono ?_
  rintro e w2 ⟨N, rfl, hN, ⟨T, hT⟩, hb2⟩
  have hNN : w.heap.size + 1 ≠ N := by have := lk.size; omega
  have hN0 : w.heap.size ≠ N := by have := lk.size; omega
  have hn12 : w.heap.size ≠ w.heap.size + 1 := by omega
  have k1 := below_blk hb2 lk.r1 lk.r1.lt
  have k2 := below_blk hb2 lk.r2 lk.r2.lt
  have r2 := k2.cell 0
  have r2z := k2.frozen 0
  simp at r2
  have K1 := (k1.setOther (Ne.symm hn12) 0 (.iface 113 (.pointer (some ⟨N, 0, none⟩)))).drew
  have K2 := (k2.set 0 (.iface 113 (.pointer (some ⟨N, 0, none⟩)))).drew
  have KN := (hT.setOther hNN 0 (.iface 113 (.pointer (some ⟨N, 0, none⟩)))).drew
  have KB := (lk.but.below hb2).set (b := w.heap.size + 1) (.inr (Nat.le_succ _)) 0 (.iface 113 (.pointer (some ⟨N, 0, none⟩)))
  have hlq := st.q.lt
  have hlc := st.c.lt
  have hlf := st.fl.lt
  have hls := st.s.lt
  have hin : ∀ b t cs, Blk w2 b t cs → b < w.heap.size → Blk ((w2.setCell ⟨w.heap.size + 1, 0, none⟩ (.iface 113 (.pointer (some ⟨N, 0, none⟩)))).drew) b t cs := fun b t cs hb hlt => (hb.setOther (show w.heap.size + 1 ≠ b by omega) 0 _).drew
  have Q := hin qb _ _ (below_blk hb2 lk.q lk.q.lt) hlq
  have C := hin cb _ _ (below_blk hb2 lk.c lk.c.lt) hlc
  have FB := hin fb _ _ (below_blk hb2 lk.fl lk.fl.lt) hlf
  have S := hin sb _ _ (below_blk hb2 lk.s lk.s.lt) hls
  clear hin
  have K2' : Blk _ (w.heap.size + 1) 52 #[.iface 113 (.pointer (some ⟨N, 0, none⟩))] := K2
  go_wp2_with fail
  clear K2 r2 r2z k1 k2 hT hb2
  generalize w2.setCell ⟨w.heap.size + 1, 0, none⟩ (.iface 113 (.pointer (some ⟨N, 0, none⟩))) = X at K1 K2' KN KB Q C FB S ⊢
  have z1 : ∀ i, X.frozen? ⟨w.heap.size, i, none⟩ = false := fun i => K1.frozen i
  have z2 : X.frozen? ⟨w.heap.size + 1, 0, none⟩ = false := K2'.frozen 0
  have a0 : X.cell? ⟨w.heap.size, 0, none⟩ = some (.string ⟨#[]⟩) := K1.cell 0
  have a1 : X.cell? ⟨w.heap.size, 1, none⟩ = some (.string ⟨#[]⟩) := K1.cell 1
  have a2 : X.cell? ⟨w.heap.size, 2, none⟩ = some (.string ⟨#[]⟩) := K1.cell 2
  have a3 : X.cell? ⟨w.heap.size, 3, none⟩ = some (.string ⟨#[]⟩) := K1.cell 3
  have a4 : X.cell? ⟨w.heap.size, 4, none⟩ = some (.slice none 0 0) := K1.cell 4
  have a5 : X.cell? ⟨w.heap.size, 5, none⟩ = some (.int .u64 0) := K1.cell 5
  have a6 : X.cell? ⟨w.heap.size, 6, none⟩ = some (.int .i64 0) := K1.cell 6
  have a7 : X.cell? ⟨w.heap.size, 7, none⟩ = some (.pointer none) := K1.cell 7
  have a8 : X.cell? ⟨w.heap.size, 8, none⟩ = some (.int .u64 0) := K1.cell 8
  have a9 : X.cell? ⟨w.heap.size, 9, none⟩ = some (.int .i64 0) := K1.cell 9
  have a10 : X.cell? ⟨w.heap.size, 10, none⟩ = some (.pointer none) := K1.cell 10
  have a11 : X.cell? ⟨w.heap.size, 11, none⟩ = some (.int .u64 0) := K1.cell 11
  have a12 : X.cell? ⟨w.heap.size, 12, none⟩ = some (.int .i64 0) := K1.cell 12
  have a13 : X.cell? ⟨w.heap.size, 13, none⟩ = some (.pointer none) := K1.cell 13
  have b0 : X.cell? ⟨w.heap.size + 1, 0, none⟩ = some (.iface 113 (.pointer (some ⟨N, 0, none⟩))) := K2'.cell 0
  have e0 : X.drew.setCell ⟨w.heap.size, 0, none⟩ (.string ⟨#[]⟩) = X.drew := setCell_same_val _ _ _ a0
  have e1 : X.drew.setCell ⟨w.heap.size, 1, none⟩ (.string ⟨#[]⟩) = X.drew := setCell_same_val _ _ _ a1
  have e2 : X.drew.setCell ⟨w.heap.size, 2, none⟩ (.string ⟨#[]⟩) = X.drew := setCell_same_val _ _ _ a2
  have e3 : X.drew.setCell ⟨w.heap.size, 3, none⟩ (.string ⟨#[]⟩) = X.drew := setCell_same_val _ _ _ a3
  have e4 : X.drew.setCell ⟨w.heap.size, 4, none⟩ (.slice none 0 0) = X.drew := setCell_same_val _ _ _ a4
  have e5 : X.drew.setCell ⟨w.heap.size, 5, none⟩ (.int .u64 0) = X.drew := setCell_same_val _ _ _ a5
  have e6 : X.drew.setCell ⟨w.heap.size, 6, none⟩ (.int .i64 0) = X.drew := setCell_same_val _ _ _ a6
  have e7 : X.drew.setCell ⟨w.heap.size, 7, none⟩ (.pointer none) = X.drew := setCell_same_val _ _ _ a7
  have e8 : X.drew.setCell ⟨w.heap.size, 8, none⟩ (.int .u64 0) = X.drew := setCell_same_val _ _ _ a8
  have e9 : X.drew.setCell ⟨w.heap.size, 9, none⟩ (.int .i64 0) = X.drew := setCell_same_val _ _ _ a9
  have e10 : X.drew.setCell ⟨w.heap.size, 10, none⟩ (.pointer none) = X.drew := setCell_same_val _ _ _ a10
  have e11 : X.drew.setCell ⟨w.heap.size, 11, none⟩ (.int .u64 0) = X.drew := setCell_same_val _ _ _ a11
  have e12 : X.drew.setCell ⟨w.heap.size, 12, none⟩ (.int .i64 0) = X.drew := setCell_same_val _ _ _ a12
  have e13 : X.drew.setCell ⟨w.heap.size, 13, none⟩ (.pointer none) = X.drew := setCell_same_val _ _ _ a13
  have f0 : X.drew.setCell ⟨w.heap.size + 1, 0, none⟩ (.iface 113 (.pointer (some ⟨N, 0, none⟩))) = X.drew := setCell_same_val _ _ _ b0
  go_region
  go_wp2_with fail
  clear a0 e0 a1 e1 a2 e2 a3 e3 a4 e4 a5 e5 a6 e6 a7 e7 a8 e8 a9 e9 a10 e10 a11 e11 a12 e12 a13 e13 b0 f0 z1 z2
  have KB' : But [qb] w X.drew := ⟨KB.os, KB.tape, KB.output, KB.size, KB.old⟩
  obtain ⟨hbl, k1, k2⟩ := unl_facts (fl := fl) (p := p) st.q st.c Q C K1 K2' KB' rfl
  have kN : (unlW fl p qb cb (w.heap.size + 1) X.drew).cell? ⟨N, 1, none⟩ = some (.iface 73 (.pointer (some a))) := by
    have hs := lk.size
    have n1 := KN.setOther (show qb ≠ N by omega) 2 (.int .i32 0)
    have n2 := n1.setOther (show cb ≠ N by omega) 0 (.int .i64 1)
    cases fl with
    | true => exact (n2.setOther hNN 0 (said true p)).cell 1
    | false => exact n2.cell 1
  refine leaves_cons (f := 18) (args := #[.pointer (some ⟨qb, 0, none⟩), .pointer (some ⟨w.heap.size + 1, 0, none⟩)]) (by simp) (by simp [go_sem]) ?_
  refine (unlock_any qb cb fb sb (w.heap.size + 1) mb sl _ fl p .returning X.drew Q C FB S K2').mono ?_
  rintro e u' w5 ⟨rfl, rfl, rfl⟩
  generalize unlW fl p qb cb (w.heap.size + 1) X.drew = W5 at hbl k1 k2 kN ⊢
  refine ⟨.tuple #[.agg zero61, errOf fl p N], ?_, N, rfl, kN, hbl⟩
  have a0 : W5.cell? ⟨w.heap.size, 0, none⟩ = some (.string ⟨#[]⟩) := k1.cell 0
  have a1 : W5.cell? ⟨w.heap.size, 1, none⟩ = some (.string ⟨#[]⟩) := k1.cell 1
  have a2 : W5.cell? ⟨w.heap.size, 2, none⟩ = some (.string ⟨#[]⟩) := k1.cell 2
  have a3 : W5.cell? ⟨w.heap.size, 3, none⟩ = some (.string ⟨#[]⟩) := k1.cell 3
  have a4 : W5.cell? ⟨w.heap.size, 4, none⟩ = some (.slice none 0 0) := k1.cell 4
  have a5 : W5.cell? ⟨w.heap.size, 5, none⟩ = some (.int .u64 0) := k1.cell 5
  have a6 : W5.cell? ⟨w.heap.size, 6, none⟩ = some (.int .i64 0) := k1.cell 6
  have a7 : W5.cell? ⟨w.heap.size, 7, none⟩ = some (.pointer none) := k1.cell 7
  have a8 : W5.cell? ⟨w.heap.size, 8, none⟩ = some (.int .u64 0) := k1.cell 8
  have a9 : W5.cell? ⟨w.heap.size, 9, none⟩ = some (.int .i64 0) := k1.cell 9
  have a10 : W5.cell? ⟨w.heap.size, 10, none⟩ = some (.pointer none) := k1.cell 10
  have a11 : W5.cell? ⟨w.heap.size, 11, none⟩ = some (.int .u64 0) := k1.cell 11
  have a12 : W5.cell? ⟨w.heap.size, 12, none⟩ = some (.int .i64 0) := k1.cell 12
  have a13 : W5.cell? ⟨w.heap.size, 13, none⟩ = some (.pointer none) := k1.cell 13
  have c0 := k2.cell 0
  simp at c0
  cases fl <;> simp [said] at c0 <;> simp [results, Ybaf.results7, go_sem, zero61, errOf, said, *]
end Go.Proofs.YbulkcfnoFmt
