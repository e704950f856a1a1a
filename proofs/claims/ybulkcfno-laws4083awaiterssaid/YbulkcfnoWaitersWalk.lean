/-
  LawS4083AWaiters (3): the walk.
-/
import Derived.Test.YbulkcfnoWaitsWalk
namespace Go.Proofs.Ybulkcfno
open Go Go.RowKit

theorem prefix_get (p q : List (Nat × Int)) (i : Nat) (hi : i < p.length) : (wcells (p ++ q))[i * 2]? = some (.pointer (some ⟨p[i].1, 0, none⟩)) ∧ (wcells (p ++ q))[i * 2 + 1]? = some (.int .i64 p[i].2) := by
  have := wcells_get (p ++ q) i (by simp; omega)
  simpa [List.getElem_append_left hi] using this

theorem made_get (z : Value) {n j : Nat} (hj : j < n) : (madeCells #[z] n)[j]? = some z := by
  rw [← Array.getElem?_toList, toList_madeCells_one]
  simp [hj]

theorem neq_entry_same (b : Nat) (w : World) : (binOp .neq 24 (.pointer (some ⟨b, 0, none⟩)) (.pointer (some ⟨b, 0, none⟩))).run Yba.prog w = .ok (.bool false) w := by
  simp only [binOp]
  simp [Op.equal, Op.maxDepth, equalIn_ptr_same w 9999 ⟨b, 0, none⟩]

/-- The first waiters of an owned row. -/
theorem reads_of {w : World} {B : Nat} {A : Option Addr} {n n' cap : Nat} {p q : List (Nat × Int)} (h : w.ownsRow B 41 2 (.slice A n' cap) n (wcells (p ++ q))) : Reads w A p := by
  intro i hi
  obtain ⟨h0, h1⟩ := prefix_get p q i hi
  obtain ⟨g, cur, rfl, _, hb, hc⟩ := owns_get h h0
  obtain ⟨g', cur', hA, _, hb', hc'⟩ := owns_get h h1
  injection hA with hA
  injection hA with hA _ _
  subst hA
  exact ⟨g, rfl, (hb.cell _).trans hc, (hb'.cell _).trans hc'⟩

theorem same_len (A C : Option Addr) (ca cc : Nat) (l : List (Nat × Int)) {n : Nat} (w : World) (hn : l.length = n) (hl : n ≤ 4096) (hA : Reads w A l) (hC : Reads w C l) :
    Calls Yba.prog 7 #[.slice A n ca, .slice C n cc] w fun e w' => e = .returned (.bool true) ∧ ∃ n, w' = w.drewN n := by
  subst hn
  exact same_any A C ca cc l w hl hA hC

theorem same_nil (A C : Option Addr) (ca cc : Nat) (w : World) :
    Calls Yba.prog 7 #[.slice A 0 ca, .slice C 0 cc] w fun e w' => e = .returned (.bool true) ∧ ∃ n, w' = w.drewN n :=
  same_any A C ca cc [] w (by simp) (fun i hi => absurd hi (by simp)) (fun i hi => absurd hi (by simp))

theorem same_quiet (A C : Option Addr) (ca cc : Nat) (l : List (Nat × Int)) (w : World) (Q n : Nat) (hl : l.length ≤ 4096) (hA : Reads w A l) (hC : Reads w C l) :
    Calls Yba.prog 7 #[.slice A l.length ca, .slice C l.length cc] (w.drewN (Q + n)) fun e w'' => e = .returned (.bool true) ∧ ∃ m, w'' = w.drewN (Q + m) := by
  refine (same_any A C ca cc l (w.drewN (Q + n)) hl hA hC).mono ?_
  rintro e w' ⟨rfl, m, rfl⟩
  exact ⟨rfl, n + m, by rw [World.drewN_drewN, Nat.add_assoc]⟩

theorem Snap.stepped {L : Lay} {SN : Nat} {w w' : World} {SV V V' : Nat → Value} {Ws : Nat → List (Nat × Int)} (h : Snap L.B L.n SN w SV V Ws L.n) (hs : Stepped L w w' V V') :
    (∃ cs, Blk w' SN 34 cs ∧ ∀ j, j < L.n → cs[j]? = some (SV j)) ∧ ∀ j, j < L.n → w'.ownsRow L.B 41 2 (SV j) (Ws j).length (wcells (Ws j)) := by
  obtain ⟨cs, hr, _, hc⟩ := h.row
  refine ⟨⟨cs, hs.same _ _ _ rfl hr, hc⟩, fun j hj => ?_⟩
  have ho := h.own j hj
  refine ⟨ho.1, ?_⟩
  rcases ho.2 with h0 | ⟨g, cap, cur, hv, hb, hg, r⟩
  · exact .inl h0
  · exact .inr ⟨g, cap, cur, hv, hb, (hs.snap g cur hg (h.foreign j hj g (by rw [hv]; rfl))).1, r⟩

/-- What the second loop reads: the counts, the copies, the chains. -/
structure Fin (L : Lay) (SN CB KB : Nat) (SV V' : Nat → Value) (Ws : Nat → List (Nat × Int)) (K : Array Value) (w : World) : Prop where
  k : Blk w KB 30 K
  cnt : ∃ cs, Blk w CB 3 cs ∧ ∀ j, j < L.n → cs[j]? = some (.int .i64 (cntC L.c L.m j))
  row : ∃ cs, Blk w L.CH 33 cs ∧ ∀ i, i < L.n → cs[i]? = some (.pointer (some ⟨L.CH + 1 + i, 0, none⟩))
  snap : ∃ cs, Blk w SN 34 cs ∧ ∀ j, j < L.n → cs[j]? = some (SV j)
  sown : ∀ j, j < L.n → w.ownsRow L.B 41 2 (SV j) (Ws j).length (wcells (Ws j))
  chn : Chn L w V' (WsAt L.EB L.c Ws L.m)
  eb : ∃ cs, Blk w L.EB 56 cs
  len : ∀ i, i < L.n → (Ws i).length ≤ 1024
  bd : ∀ i, i < L.n → ∀ p ∈ Ws i, 0 ≤ p.2 ∧ p.2 ≤ 3
  ents : ∀ i, i < L.n → ∀ p ∈ Ws i, ∃ cs, Blk w p.1 56 cs
  n2 : L.n ≤ 1024
  m2 : L.m ≤ 1024

set_option maxRecDepth 100000 in
set_option maxHeartbeats 4000000 in
theorem waiters_walk (A1 A2 A3 A4 : Option Addr) (n1 n2 n3 n4 c1 c2 c3 c4 : Nat) (G TC AF PR : Nat → Int) (w : World)
    (l1 : n1 ≤ 1024) (l2 : n2 ≤ 1024) (l3 : n3 ≤ 1024) (l4 : n4 ≤ 1024) (a1 : ByteArg w A1 n1 G) (a2 : ByteArg w A2 n2 TC) (a3 : ByteArg w A3 n3 AF) (a4 : ByteArg w A4 n4 PR) :
    Calls Yba.prog 3 #[.slice A1 n1 c1, .slice A2 n2 c2, .slice A3 n3 c3, .slice A4 n4 c4] w fun e w' => e = .returned (.bool true) ∧ Below w.heap.size w w' := by
  have d1 := decide_len l1
  have d2 := decide_len l2
  have d3 := decide_len l3
  have d4 := decide_len l4
  go_enter Yba.func3, Yba.ntmps3
  go_wp2_with fail
  refine (build_any A1 A2 A3 A4 n1 n2 n3 n4 c1 c2 c3 c4 G TC AF PR w l1 l2 l3 l4 a1 a2 a3 a4).mono ?_
  rintro e w1 ⟨L, SN, SV, V, Ws, av, acv, rfl, hC0⟩
  clear a1 a2 a3 a4
  obtain ⟨A, ca, rfl, _, _, _⟩ := owns_view hC0.base.av
  obtain ⟨A', cb, rfl, _, _, _⟩ := owns_view hC0.base.acv
  have hC := hC0.alloc (.cells #[.pointer (some ⟨L.QB, 0, none⟩), .pointer (some ⟨L.EB, 0, none⟩), .slice (some ⟨L.CH, 0, none⟩) L.n L.n, .slice (some ⟨SN, 0, none⟩) L.n L.n, .slice A L.m ca, .slice A' L.m cb] 30)
  have hK := blk_new w1 30 #[.pointer (some ⟨L.QB, 0, none⟩), .pointer (some ⟨L.EB, 0, none⟩), .slice (some ⟨L.CH, 0, none⟩) L.n L.n, .slice (some ⟨SN, 0, none⟩) L.n L.n, .slice A L.m ca, .slice A' L.m cb]
  clear hC0
  go_wp2_with fail
  refine (waitOn_any L (.slice A L.m ca) (.slice A' L.m cb) V Ws _ hC.base hC.chn hC.ch hC.eb hC.len hC.cnt).mono ?_
  rintro e w5 ⟨rfl, w4, V', hs4, hlo4, hc4, hW⟩
  have hK5 := hW.step.same _ _ _ rfl (hs4 _ _ _ rfl hK)
  have hlo5 : Below w.heap.size w w5 := by
    rw [hC.B] at hlo4
    have := hW.step.below
    rw [hC.B] at this
    exact (hC.below.trans hlo4).trans this
  obtain ⟨hsn, hso⟩ := (hC.snap.kept hs4 rfl rfl).stepped hW.step
  have hlen := hC.len
  have hcnt := hC.cnt
  have hents : ∀ i, i < L.n → ∀ p ∈ Ws i, ∃ cs, Blk w5 p.1 56 cs := fun i hi p hp => by
    obtain ⟨cs, h⟩ := hc4.ents i hi p hp
    exact ⟨cs, hW.step.same _ _ _ rfl h⟩
  have hn := hW.base.n2
  have hm := hW.base.m2
  have t2 := hK5.cell 2
  have t3 := hK5.cell 3
  have t1 := hK5.cell 1
  have t5 := hK5.cell 5
  simp at t1 t2 t3 t5
  have hKlt := hK5.lt
  have hB5 : w.heap.size ≤ w5.heap.size := hlo5.size
  clear hK hs4 hlo4 hC hc4
  generalize w1.heap.size = KB at *
  have hmk := run_make_row' (P := Yba.prog) 28 3 (.int .i64 0) 8 Yba.underlying28 info3 rfl .i64 .i64 L.n (by omega) (by omega)
  go_wp2_with fail
  clear hmk
  have hCB0 := blk_new w5 3 (madeCells #[.int .i64 0] L.n)
  have hlo6 : Below w.heap.size w (w5.alloc (.cells (madeCells #[.int .i64 0] L.n) 3)) := hlo5.alloc hB5 _
  have hb6 : Below w5.heap.size w5 (w5.alloc (.cells (madeCells #[.int .i64 0] L.n) 3)) := (Below.refl _ _).alloc (Nat.le_refl _) _
  go_loopw [55] (fun i wr => ∃ (k : Nat) (cs : Array Value), k ≤ L.m ∧ i = .int .i64 k ∧ Blk wr w5.heap.size 3 cs ∧ cs.size = L.n ∧ (∀ j, j < L.n → cs[j]? = some (.int .i64 (cntC L.c k j))) ∧ Below w.heap.size w wr ∧ Below w5.heap.size w5 wr) (fun i _ => L.m - (intOf i).toNat)
  case atStart => exact ⟨0, _, Nat.zero_le _, rfl, hCB0, size_madeCells _ _, fun j hj => made_get _ hj, hlo6, hb6⟩
  case round =>
    clear hCB0 hlo6 hb6
    obtain ⟨k, cs, hk, rfl, hblk, hcs, hcv, hlo, hb⟩ := hrel
    by_cases hlt : k < L.m
    · -- <<A
      obtain ⟨gc, curc, hA', _, hbc, hcc⟩ := owns_get hW.base.acv (range_get _ hlt)
      subst hA'
      obtain ⟨_, hcn, _⟩ := hW.base.ids k hlt
      have r1 := ((below_blk hb hbc hbc.lt).cell k).trans hcc
      have r2 := (hblk.cell (L.c k)).trans (hcv _ hcn)
      have r3 := hblk.frozen (L.c k)
      have hle := cntC_le L.c (L.c k) k
      have hblk2 := hblk.set (L.c k) (.int .i64 ((cntC L.c k (L.c k) : Int) + 1))
      have hlo2 := hlo.setCell (p := ⟨w5.heap.size, L.c k, none⟩) hB5 (.int .i64 ((cntC L.c k (L.c k) : Int) + 1))
      have hb2 := hb.setCell (p := ⟨w5.heap.size, L.c k, none⟩) (Nat.le_refl _) (.int .i64 ((cntC L.c k (L.c k) : Int) + 1))
      have hcv2 : ∀ j, j < L.n → (cs.setIfInBounds (L.c k) (.int .i64 ((cntC L.c k (L.c k) : Int) + 1)))[j]? = some (.int .i64 (cntC L.c (k + 1) j)) := fun j hj => by
        by_cases hjc : j = L.c k
        · subst hjc
          simp [hcs, hcn, cntC]
        · rw [Array.getElem?_setIfInBounds_ne (Ne.symm hjc), hcv j hj]
          simp [cntC, hjc]
      have Hcv2 : Hid (∀ j, j < L.n → (cs.setIfInBounds (L.c k) (.int .i64 ((cntC L.c k (L.c k) : Int) + 1)))[j]? = some (.int .i64 (cntC L.c (k + 1) j))) := hcv2
      clear hbc hcc hcv hcv2 hblk hlo hb hso hlen hcnt hents
      go_wp2_with fail
      go_roundw
      case rel => exact ⟨k + 1, _, by omega, by go_num, hblk2, by simp [hcs], Hcv2.out, hlo2, hb2⟩
      case measure => simp [intOf]; omega
      -- A>>
    · obtain rfl : L.m = k := by omega
      have hF : Fin L SN w5.heap.size KB SV V' Ws #[.pointer (some ⟨L.QB, 0, none⟩), .pointer (some ⟨L.EB, 0, none⟩), .slice (some ⟨L.CH, 0, none⟩) L.n L.n, .slice (some ⟨SN, 0, none⟩) L.n L.n, .slice A L.m ca, .slice A' L.m cb] wr := by
        have sm : Same (fun _ => true) w5 wr := fun _ _ _ _ h => below_blk hb h h.lt
        obtain ⟨ecs, he, _⟩ := hW.base.eb
        obtain ⟨rcs, hr, hrc⟩ := hW.base.rowT
        obtain ⟨scs, hsb, hsc⟩ := hsn
        exact ⟨sm _ _ _ rfl hK5, ⟨cs, hblk, hcv⟩, ⟨rcs, sm _ _ _ rfl hr, hrc⟩, ⟨scs, sm _ _ _ rfl hsb, hsc⟩, fun j hj => sm.owns rfl (hso j hj), hW.chn.kept sm rfl rfl (fun _ cs' h => ⟨cs', sm _ _ _ rfl h⟩), ⟨_, sm _ _ _ rfl he⟩, hlen, hcnt, fun i hi p hp => by obtain ⟨cs', h⟩ := hents i hi p hp; exact ⟨cs', sm _ _ _ rfl h⟩, hn, hm⟩
      have t2' := hF.k.cell 2
      have t3' := hF.k.cell 3
      have t1' := hF.k.cell 1
      simp at t1' t2' t3'
      clear t1 t2 t3 t5 hK5 hW hsn hso hlen hcnt hents hcv hblk hcs hb hlo5
      generalize w5.heap.size = CB at *
      rename World => W
      go_wp2_with fail
      go_loopw [69] (fun i wq => ∃ (k q : Nat), k ≤ L.n ∧ i = .int .i64 k ∧ wq = W.drewN q) (fun i _ => L.n - (intOf i).toNat)
      case atStart => exact ⟨0, 0, Nat.zero_le _, rfl, rfl⟩
      case round =>
        obtain ⟨k, q, hk', rfl, rfl⟩ := hrel
        by_cases hlt' : k < L.n
        · obtain ⟨ccs, hcb, hcc⟩ := hF.cnt
          obtain ⟨rcs, hrb, hrc⟩ := hF.row
          obtain ⟨scs, hsb, hsc⟩ := hF.snap
          have r1 := (hcb.cell k).trans (hcc k hlt')
          have r2 := (hrb.cell k).trans (hrc k hlt')
          have r3 := (hsb.cell k).trans (hsc k hlt')
          have r4 := (hF.chn.chain k hlt').cell 1
          simp at r4
          have hso := hF.sown k hlt'
          have hgo := hF.chn.own k hlt'
          obtain ⟨As, cs', hvs, hcaps, hcapm, _⟩ := owns_view hso
          obtain ⟨Ag, cg, hvg, hcapg, hcapn, _⟩ := owns_view hgo
          rw [hvs] at r3 hso
          rw [hvg] at r4 hgo
          clear hvs hvg hcb hcc hrb hrc hsb hsc
          have hle := hF.len k hlt'
          have hle2 := WsAt_len (E := L.EB) (c := L.c) hle L.m
          have hct := cntC_le L.c k L.m
          have htold := told_all L.EB L.c Ws k L.m
          have hbd := hF.bd k hlt'
          have hents := hF.ents k hlt'
          obtain ⟨ebs, heb⟩ := hF.eb
          generalize WsAt L.EB L.c Ws L.m k = got at *
          generalize Ws k = old at *
          generalize cntC L.c L.m k = t at *
          have hRs : ∀ p q, old = p ++ q → Reads W As p := fun p q e => reads_of (q := q) (by rw [e] at hso; exact hso)
          have hRg : ∀ p q, got = p ++ q → Reads W Ag p := fun p q e => reads_of (q := q) (by rw [e] at hgo; exact hgo)
          have hnot : ∀ (x : Bool) (w : World), (Op.unary .not (.bool x)).run Yba.prog w = .ok (.bool (!x)) w := fun _ _ => rfl
          clear hF hso hgo
          rcases htold with ⟨rfl, rfl⟩ | ⟨ht, a, x, rfl, rfl⟩ | ⟨ht, ho, rfl⟩
          · have hg1 := hRg got [] (by simp)
            have hg2 := hRs got [] (by simp)
            have hc0 : ((((0 : Nat) : Int)) == 0) = true := by decide
            clear hRs hRg hbd hents heb
            go_wp2_with fail
            refine (same_any Ag As cg cs' got (W.drewN q) (by omega) hg1 hg2).mono ?_
            rintro e w' ⟨rfl, n, rfl⟩
            clear r1 r2 r3 r4 hg1 hg2
            go_wp2_with fail
            go_roundw
            case rel => exact ⟨k + 1, q + n, by omega, by go_num, rfl⟩
            case measure => simp [intOf]; omega
          · obtain ⟨gs, rfl, s0, s1⟩ := hRs (a ++ [(L.EB, x)]) [] (by simp) a.length (by simp)
            obtain ⟨gg, rfl, g0, g1⟩ := hRg (a ++ [(L.EB, x + (t : Int))]) [] (by simp) a.length (by simp)
            have hg1 := hRg a [(L.EB, x + (t : Int))] rfl
            have hg2 := hRs a [(L.EB, x)] rfl
            simp at s0 s1 g0 g1
            have hx := hbd (L.EB, x) (by simp)
            simp only at hx
            have heq := eql_entry_same L.EB
            have hneq := neq_entry_same L.EB
            have hl1 : (a ++ [(L.EB, x)]).length = a.length + 1 := by simp
            have hl2 : (a ++ [(L.EB, x + (t : Int))]).length = a.length + 1 := by simp
            rw [hl1] at r3 hle hcaps
            rw [hl2] at r4 hle2 hcapg
            unfold maxLen at hcapm hcapn
            have hne : (x + (t : Int) != x + (t : Int)) = false := by simp
            have hcg0 : a.length ≤ cg := by omega
            have hcs0 : a.length ≤ cs' := by omega
            have hc0 : ((t : Int) == 0) = false := by simp; omega
            have hgd : decide ((0 : Int) < (a.length : Int) + 1) = true := by simp
            clear hRs hRg hbd hents heb hl1 hl2
            go_wp2_with fail
            go_quiet (fail)
            go_wp2_with fail
            go_quiet ((go_at_call 7; exact same_quiet _ _ _ _ a W _ _ (by omega) hg1 hg2))
            go_wp2_with fail
            go_quiet (fail)
            go_wp2_with fail
            go_roundw
            case rel => exact ⟨k + 1, _, by omega, by go_num, rfl⟩
            case measure => simp [intOf]; omega
          · have hnw := neq_waiter ⟨L.EB, 0, none⟩ (t : Int)
            have hl2 : (old ++ [(L.EB, (t : Int))]).length = old.length + 1 := by simp
            obtain ⟨gg, rfl, g0, g1⟩ := hRg (old ++ [(L.EB, (t : Int))]) [] (by simp) old.length (by simp)
            have hg1 := hRg old [(L.EB, (t : Int))] rfl
            have hg2 := hRs old [] (by simp)
            simp at g0 g1
            rw [hl2] at r4 hle2 hcapg
            unfold maxLen at hcapm hcapn
            have hcg0 : old.length ≤ cg := by omega
            have hc0 : ((t : Int) == 0) = false := by simp; omega
            rcases ho with hnil | ⟨a, b, x, hsn, hbE⟩
            · subst hnil
              simp at g0 g1 r3 r4
              have hcg1 : 1 ≤ cg := by simpa using hcapg
              clear hRs hRg hbd hents heb hl2 hg1 hg2 hle hle2 hcaps hcapg hcg0
              go_wp2_with fail
              go_quiet (fail)
              go_wp2_with fail
              refine (same_nil _ As cg cs' _).mono ?_
              rintro e w' ⟨rfl, n, rfl⟩
              go_wp2_with fail
              go_quiet (fail)
              go_wp2_with fail
              go_roundw
              case rel => exact ⟨k + 1, _, by omega, by go_num, rfl⟩
              case measure => simp [intOf]; omega
            · subst hsn
              obtain ⟨bcs, hbb⟩ := hents (b, x) (by simp)
              obtain ⟨gs, rfl, s0, _⟩ := hRs (a ++ [(b, x)]) [] (by simp) a.length (by simp)
              simp at s0
              have hla : (a ++ [(b, x)]).length = a.length + 1 := by simp
              rw [hla] at r3 r4 hle hle2 hcaps hcapg hcg0 g0 g1
              have heq : ∀ n, (binOp .eql 24 (.pointer (some ⟨b, 0, none⟩)) (.pointer (some ⟨L.EB, 0, none⟩))).run Yba.prog (W.drewN n) = .ok (.bool false) (W.drewN n) := fun n => eql_entry_other hbE (W.drewN n) hbb heb
              have hgd : decide ((0 : Int) < (a.length : Int) + 1) = true := by simp
              have hne : (((a.length : Int) + 1 + 1) != (a.length : Int) + 1 + 1) = false := by simp
              have Hla : Hid ((a ++ [(b, x)]).length = a.length + 1) := hla
              clear hRs hRg hbd hents heb hl2 hla hbb
              go_wp2_with fail
              go_quiet (fail)
              go_wp2_with fail
              refine (same_len _ _ cg cs' (a ++ [(b, x)]) (W.drewN (q + nq)) Hla.out (by omega) hg1 hg2).mono ?_
              rintro e w' ⟨rfl, n, rfl⟩
              go_wp2_with fail
              go_quiet (fail)
              go_wp2_with fail
              go_roundw
              case rel => exact ⟨k + 1, _, by omega, by go_num, rfl⟩
              case measure => simp [intOf]; omega
        · have hlo' : Below w.heap.size w (W.drewN q) := ⟨hlo.os, hlo.tape, hlo.output, hlo.size, hlo.block⟩
          go_wp2_with fail
          go_ret
          exact ⟨rfl, hlo'⟩

set_option maxRecDepth 100000 in
/-- An argument longer than 1024: true at once. -/
theorem waiters_long (A1 A2 A3 A4 : Option Addr) (n1 n2 n3 n4 c1 c2 c3 c4 : Nat) (w : World) (m1 : n1 ≤ maxLen) (m2 : n2 ≤ maxLen) (m3 : n3 ≤ maxLen) (m4 : n4 ≤ maxLen) (h : 1024 < n1 ∨ 1024 < n2 ∨ 1024 < n3 ∨ 1024 < n4) :
    Calls Yba.prog 3 #[.slice A1 n1 c1, .slice A2 n2 c2, .slice A3 n3 c3, .slice A4 n4 c4] w fun e w' => e = .returned (.bool true) ∧ Below w.heap.size w w' := by
  unfold maxLen at m1 m2 m3 m4
  by_cases h1 : 1024 < n1
  · have d1 : decide ((1024 : Int) < (n1 : Int)) = true := by simp; omega
    clear h
    go_enter Yba.func3, Yba.ntmps3
    go_wp2_with fail
    go_ret
    exact ⟨rfl, Below.refl _ _⟩
  have d1 : decide ((1024 : Int) < (n1 : Int)) = false := by simp; omega
  by_cases h2 : 1024 < n2
  · have d2 : decide ((1024 : Int) < (n2 : Int)) = true := by simp; omega
    clear h
    go_enter Yba.func3, Yba.ntmps3
    go_wp2_with fail
    go_ret
    exact ⟨rfl, Below.refl _ _⟩
  have d2 : decide ((1024 : Int) < (n2 : Int)) = false := by simp; omega
  by_cases h3 : 1024 < n3
  · have d3 : decide ((1024 : Int) < (n3 : Int)) = true := by simp; omega
    clear h
    go_enter Yba.func3, Yba.ntmps3
    go_wp2_with fail
    go_ret
    exact ⟨rfl, Below.refl _ _⟩
  have d3 : decide ((1024 : Int) < (n3 : Int)) = false := by simp; omega
  have h4 : 1024 < n4 := by omega
  have d4 : decide ((1024 : Int) < (n4 : Int)) = true := by simp; omega
  clear h
  go_enter Yba.func3, Yba.ntmps3
  go_wp2_with fail
  go_ret
  exact ⟨rfl, Below.refl _ _⟩
end Go.Proofs.Ybulkcfno
