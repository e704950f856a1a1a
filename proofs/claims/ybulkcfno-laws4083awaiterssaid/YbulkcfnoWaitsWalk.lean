/-
  LawS4083AWaits (4): the walk.
-/
import Derived.Test.YbulkcfnoBuild
namespace Go.Proofs.Ybulkcfno
open Go Go.RowKit

/-- The case's own variable, and the case, behind an alloc. -/
theorem Case.alloc {w wr : World} {L : Lay} {SN : Nat} {SV V : Nat → Value} {Ws : Nat → List (Nat × Int)} {av acv : Value} (h : Case w wr L SN SV V Ws av acv) (o : Obj) : Case w (wr.alloc o) L SN SV V Ws av acv :=
  ⟨h.B, h.base.kept (Same.alloc (fun _ => true) _ _) (by simp) (Below.heap_alloc _ _ _ h.base.map.lt) rfl rfl rfl rfl rfl, h.chn.alloc o, h.snap.kept (Same.alloc (fun _ => true) _ _) rfl rfl, h.len, h.cnt, h.ch, h.eb, h.below.alloc (by have := h.base.size; rw [h.B] at this; exact this) o⟩

theorem decide_len {n : Nat} (h : n ≤ 1024) : decide ((1024 : Int) < (n : Int)) = false := by simp; omega

set_option maxRecDepth 100000 in
set_option maxHeartbeats 4000000 in
theorem waits_walk (A1 A2 A3 A4 : Option Addr) (n1 n2 n3 n4 c1 c2 c3 c4 : Nat) (G TC AF PR : Nat → Int) (w : World)
    (l1 : n1 ≤ 1024) (l2 : n2 ≤ 1024) (l3 : n3 ≤ 1024) (l4 : n4 ≤ 1024) (a1 : ByteArg w A1 n1 G) (a2 : ByteArg w A2 n2 TC) (a3 : ByteArg w A3 n3 AF) (a4 : ByteArg w A4 n4 PR) :
    Calls Yba.prog 4 #[.slice A1 n1 c1, .slice A2 n2 c2, .slice A3 n3 c3, .slice A4 n4 c4] w fun e w' => e = .returned (.bool true) ∧ Below w.heap.size w w' := by
  have d1 := decide_len l1
  have d2 := decide_len l2
  have d3 := decide_len l3
  have d4 := decide_len l4
  go_enter Yba.func4, Yba.ntmps4
  go_wp2_with fail
  refine (build_any A1 A2 A3 A4 n1 n2 n3 n4 c1 c2 c3 c4 G TC AF PR w l1 l2 l3 l4 a1 a2 a3 a4).mono ?_
  rintro e w1 ⟨L, SN, SV, V, Ws, av, acv, rfl, hC⟩
  clear a1 a2 a3 a4
  obtain ⟨A, ca, rfl, _, _, _⟩ := owns_view hC.base.av
  obtain ⟨A', cb, rfl, _, _, _⟩ := owns_view hC.base.acv
  obtain ⟨ecs, he, hes⟩ := hC.base.eb
  obtain ⟨x25, g25⟩ : ∃ x, ecs[25]? = some x := ⟨_, Array.getElem?_eq_getElem (by omega)⟩
  obtain ⟨x26, g26⟩ : ∃ x, ecs[26]? = some x := ⟨_, Array.getElem?_eq_getElem (by omega)⟩
  have k25 := (he.cell 25).trans g25
  have k26 := (he.cell 26).trans g26
  have f25 := he.frozen 25
  have f26 := he.frozen 26
  have heblt := he.lt
  have hb2 := (hC.base.setE 25 (.int .i64 (-7))).setE 26 (.int .i64 9)
  have hc2 := (hC.chn.setE he 25 (.int .i64 (-7))).setE (he.set 25 _) 26 (.int .i64 9)
  have hlo2 := (hC.below.setCell (p := ⟨L.EB, 25, none⟩) (by have := hC.eb; rw [hC.B] at this; exact this) (.int .i64 (-7))).setCell (p := ⟨L.EB, 26, none⟩) (by have := hC.eb; rw [hC.B] at this; exact this) (.int .i64 9)
  have hsz2 : ((w1.setCell ⟨L.EB, 25, none⟩ (.int .i64 (-7))).setCell ⟨L.EB, 26, none⟩ (.int .i64 9)).heap.size = w1.heap.size := by simp
  clear g25 g26 he hes
  go_wp2_with fail
  generalize hW2 : (w1.setCell ⟨L.EB, 25, none⟩ (.int .i64 (-7))).setCell ⟨L.EB, 26, none⟩ (.int .i64 9) = W2 at *
  clear hW2 k25 k26 f25 f26
  have hwB : w.heap.size ≤ W2.heap.size := by have := hb2.size; rw [hC.B] at this; exact this
  have hK := blk_new W2 30 #[.pointer (some ⟨L.QB, 0, none⟩), .pointer (some ⟨L.EB, 0, none⟩), .slice (some ⟨L.CH, 0, none⟩) L.n L.n, .slice (some ⟨SN, 0, none⟩) L.n L.n, .slice A L.m ca, .slice A' L.m cb]
  have hb3 := hb2.kept (Same.alloc (fun _ => true) W2 (.cells #[.pointer (some ⟨L.QB, 0, none⟩), .pointer (some ⟨L.EB, 0, none⟩), .slice (some ⟨L.CH, 0, none⟩) L.n L.n, .slice (some ⟨SN, 0, none⟩) L.n L.n, .slice A L.m ca, .slice A' L.m cb] 30)) (by simp) (Below.heap_alloc _ _ _ hb2.map.lt) rfl rfl rfl rfl rfl
  have hc3 := hc2.alloc (.cells #[.pointer (some ⟨L.QB, 0, none⟩), .pointer (some ⟨L.EB, 0, none⟩), .slice (some ⟨L.CH, 0, none⟩) L.n L.n, .slice (some ⟨SN, 0, none⟩) L.n L.n, .slice A L.m ca, .slice A' L.m cb] 30)
  have hlo3 := hlo2.alloc hwB (.cells #[.pointer (some ⟨L.QB, 0, none⟩), .pointer (some ⟨L.EB, 0, none⟩), .slice (some ⟨L.CH, 0, none⟩) L.n L.n, .slice (some ⟨SN, 0, none⟩) L.n L.n, .slice A L.m ca, .slice A' L.m cb] 30)
  rw [hsz2] at hK
  clear hb2 hc2 hlo2 hsz2 hwB
  refine (waitOn_any L (.slice A L.m ca) (.slice A' L.m cb) V Ws _ hb3 hc3 hC.ch hC.eb hC.len hC.cnt).mono ?_
  rintro e w5 ⟨rfl, w4, V', hs4, hlo4, _, hW⟩
  have hK4 := hs4 _ _ _ rfl hK
  have hK5 := hW.step.same _ _ _ rfl hK4
  have hlo5 : Below w.heap.size w w5 := by
    rw [hC.B] at hlo4
    have := hW.step.below
    rw [hC.B] at this
    exact (hlo3.trans hlo4).trans this
  have hm := hW.base.m2
  have t1 := hK5.cell 1
  have t2 := hK5.cell 2
  have t5 := hK5.cell 5
  simp at t1 t2 t5
  clear hb3 hc3 hlo3 hK hs4 hlo4 hK4 hC
  generalize w1.heap.size = KB at *
  go_wp2_with fail
  go_loop [10, 11, 52] (fun d im i => ∃ k : Nat, k ≤ L.m ∧ i = .int .i64 k ∧ d = .int .i64 (cD L k) ∧ im = .int .i64 (cI L k)) (fun _ _ i => L.m - (intOf i).toNat)
  case atStart => exact ⟨0, Nat.zero_le _, rfl, rfl, rfl⟩
  case round =>
    obtain ⟨k, hk, rfl, rfl, rfl⟩ := hrel
    by_cases hlt : k < L.m
    · obtain ⟨gc, curc, hA', _, hbc, hcc⟩ := owns_get hW.base.acv (range_get _ hlt)
      subst hA'
      obtain ⟨_, hcn, _⟩ := hW.base.ids k hlt
      obtain ⟨rcs, hrb, hrc⟩ := hW.base.rowT
      have r1 := (hbc.cell k).trans hcc
      have r2 := (hrb.cell (L.c k)).trans (hrc _ hcn)
      have r3 := (hW.chn.chain (L.c k) hcn).cell 2
      simp at r3
      have b1 := cD_bd L k
      have b2 := cI_bd L k
      have hn := hW.base.n2
      have HD : Hid (cD L (k + 1) = addD (L.g (L.c k)) (cD L k)) := rfl
      have HI : Hid (cI L (k + 1) = addI (L.g (L.c k)) (cI L k)) := rfl
      clear hbc hcc hrb hrc
      by_cases e1 : isD (L.g (L.c k)) = true
      · have e2 := isI_of_isD e1
        have HD' : Hid (cD L (k + 1) = cD L k + 1) := by rw [HD.out]; simp [addD, e1, Hid]
        have HI' : Hid (cI L (k + 1) = cI L k) := by rw [HI.out]; simp [addI, e2, Hid]
        unfold isD at e1
        clear e2 HD HI
        go_wp2_with fail
        go_round
        case rel => exact ⟨k + 1, by omega, by go_num, by rw [HD'.out], by rw [HI'.out]⟩
        case measure => simp [intOf]; omega
      · have e1' : isD (L.g (L.c k)) = false := by simpa using e1
        clear e1
        have HD' : Hid (cD L (k + 1) = cD L k) := by rw [HD.out]; simp [addD, e1', Hid]
        by_cases e2 : isI (L.g (L.c k)) = true
        · have HI' : Hid (cI L (k + 1) = cI L k + 1) := by rw [HI.out]; simp [addI, e2, Hid]
          unfold isD at e1'
          unfold isI at e2
          clear HD HI
          go_wp2_with fail
          go_round
          case rel => exact ⟨k + 1, by omega, by go_num, by rw [HD'.out], by rw [HI'.out]⟩
          case measure => simp [intOf]; omega
        · have e2' : isI (L.g (L.c k)) = false := by simpa using e2
          clear e2
          have HI' : Hid (cI L (k + 1) = cI L k) := by rw [HI.out]; simp [addI, e2', Hid]
          unfold isD at e1'
          unfold isI at e2'
          clear HD HI
          go_wp2_with fail
          go_round
          case rel => exact ⟨k + 1, by omega, by go_num, by rw [HD'.out], by rw [HI'.out]⟩
          case measure => simp [intOf]; omega
    · obtain rfl : L.m = k := by omega
      have r1 := hW.e25
      have r2 := hW.e26
      go_wp2_with fail
      go_ret
      exact ⟨rfl, hlo5⟩

/-- An argument longer than 1024: true at once. -/
theorem waits_long (A1 A2 A3 A4 : Option Addr) (n1 n2 n3 n4 c1 c2 c3 c4 : Nat) (w : World) (m1 : n1 ≤ maxLen) (m2 : n2 ≤ maxLen) (m3 : n3 ≤ maxLen) (m4 : n4 ≤ maxLen) (h : 1024 < n1 ∨ 1024 < n2 ∨ 1024 < n3 ∨ 1024 < n4) :
    Calls Yba.prog 4 #[.slice A1 n1 c1, .slice A2 n2 c2, .slice A3 n3 c3, .slice A4 n4 c4] w fun e w' => e = .returned (.bool true) ∧ Below w.heap.size w w' := by
  unfold maxLen at m1 m2 m3 m4
  by_cases h1 : 1024 < n1
  · have d1 : decide ((1024 : Int) < (n1 : Int)) = true := by simp; omega
    clear h
    go_enter Yba.func4, Yba.ntmps4
    go_wp2_with fail
    go_ret
    exact ⟨rfl, Below.refl _ _⟩
  have d1 : decide ((1024 : Int) < (n1 : Int)) = false := by simp; omega
  by_cases h2 : 1024 < n2
  · have d2 : decide ((1024 : Int) < (n2 : Int)) = true := by simp; omega
    clear h
    go_enter Yba.func4, Yba.ntmps4
    go_wp2_with fail
    go_ret
    exact ⟨rfl, Below.refl _ _⟩
  have d2 : decide ((1024 : Int) < (n2 : Int)) = false := by simp; omega
  by_cases h3 : 1024 < n3
  · have d3 : decide ((1024 : Int) < (n3 : Int)) = true := by simp; omega
    clear h
    go_enter Yba.func4, Yba.ntmps4
    go_wp2_with fail
    go_ret
    exact ⟨rfl, Below.refl _ _⟩
  have d3 : decide ((1024 : Int) < (n3 : Int)) = false := by simp; omega
  have h4 : 1024 < n4 := by omega
  have d4 : decide ((1024 : Int) < (n4 : Int)) = true := by simp; omega
  clear h
  go_enter Yba.func4, Yba.ntmps4
  go_wp2_with fail
  go_ret
  exact ⟨rfl, Below.refl _ _⟩
end Go.Proofs.Ybulkcfno
