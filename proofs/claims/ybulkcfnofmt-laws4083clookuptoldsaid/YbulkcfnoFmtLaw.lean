/-
  LawS4083CLookup (3).
-/
import Derived.Test.YbulkcfnoFmtState
import Derived.Deep.CutRange
import Derived.Deep.RegionHeld3
namespace Go.Proofs.YbulkcfnoFmt
open Go Go.RowKit Go.Extern.Stop Go.Stop Go.Extern Go.MuLone

theorem info56 : (Ybaf.prog.info? 56).map (fun i => (i.zero, i.size, i.bytes)) = some (some (.pointer none), 1, 8) := by kernel_rfl

theorem one_ptr (x : Option Addr) : ∀ u ∈ [Value.pointer x], u.oneCell' = true := by
  intro u hu
  simp at hu
  subst hu
  rfl

theorem str_ne {a b : ByteArray} (h : a ≠ b) : (a.toList == b.toList) = false := by
  rw [beq_eq_false_iff_ne]
  intro e
  rw [ByteArray.toList_eq, ByteArray.toList_eq] at e
  apply h
  cases a; cases b
  simp at e
  simp [e]

theorem neq_same (a : Addr) (w : World) : (binOp .neq 52 (.iface 73 (.pointer (some a))) (.iface 73 (.pointer (some a)))).run Ybaf.prog w = .ok (.bool false) w := by
  obtain ⟨i, hi, hcmp⟩ := Option.map_eq_some_iff.1 isComp
  obtain ⟨j, hj, hjs⟩ := Option.map_eq_some_iff.1 isSize
  simp only [binOp]
  simp [Op.equal, Op.maxDepth, run_equalIn_iface_ptr_same w 9998 a Ybaf.underlying52 Ybaf.underlying73 hi hcmp hj]

theorem Sch.Ok.below {s : Sch} {w w' : World} (h : s.Ok w) (hb : Below w.heap.size w w') : s.Ok w' :=
  ⟨h.cr0, h.cr1, h.nx0, h.nx1, h.n, h.cmd.below hb h.lt, fun b o e hn => Nat.lt_of_lt_of_le (h.lt b o e hn) hb.size⟩

set_option maxRecDepth 100000 in
set_option maxHeartbeats 4000000 in
theorem law_any (F : Interp) (a : Addr) (t : ByteArray) (A : Option Addr) (n cap : Nat) (S : Nat → Sch) (query : ByteArray) (pick : Int) (fl : Bool) (w : World) (hS : Scheds w A n S) (hn : n ≤ 1024) (hqs : query.size ≤ maxLen) (hp0 : 0 ≤ pick) (hp1 : pick < 65536)
    (hF : F.answers w.tape) (hg : w.cell? ⟨0, 0, none⟩ = some (.iface 73 (.pointer (some a)))) (ha : w.cell? a = some (.string t)) :
    Calls Ybaf.prog 3 #[.slice A n cap, .string query, .int .u16 pick, .bool fl] w fun e w' => e = .returned (.bool true) ∧ Below w.heap.size w w' := by
  have hmf : ∀ (fn : Fn) (first cap : Array Value) (w : World), (Instr.makeFunc fn first cap).run Ybaf.prog w = .ok (.func fn first cap) w := fun _ _ _ _ => rfl
  have hmm := @run_makeMap Ybaf.prog
  have hdn : decide (1024 < n) = false := decide_eq_false (by omega)
  have hdn' : decide ((1024 : Int) < (n : Int)) = false := decide_eq_false (by omega)
  go_enter Ybaf.func3, Ybaf.ntmps3
  go_wp2_with fail
  refine (new_any _ _).mono ?_
  rintro e w1 ⟨rfl, rfl⟩
  go_wp2_with fail
  have h0 := Inv.start w fl S ⟨#[115, 121, 110, 99, 32, 102, 97, 105, 108, 101, 100]⟩
  unfold qCells syncV at h0
  generalize (World.alloc _ _ : World) = W0 at h0 ⊢
  generalize w.heap.size + 1 + 1 + 1 + 1 + 1 + 1 = sb at h0 ⊢
  generalize w.heap.size + 1 + 1 + 1 + 1 + 1 = pb at h0 ⊢
  generalize w.heap.size + 1 + 1 + 1 + 1 = cb at h0 ⊢
  generalize w.heap.size + 1 + 1 + 1 = qb at h0 ⊢
  generalize w.heap.size + 1 + 1 = mb at h0 ⊢
  generalize w.heap.size + 1 = tb at h0 ⊢
  generalize hfb : w.heap.size = fb at h0 ⊢
  have Hfb : Hid (w.heap.size = fb) := hfb
  clear hfb
  clear hmf hmm
  go_loopw [13] (fun i wr => ∃ (k : Nat) (sl : Value) (E : Nat → Nat), k ≤ n ∧ i = .int .i64 k ∧ Inv w wr tb mb qb cb fb sb fl ⟨pb, 0, none⟩ S k k sl E) (fun i _ => n - (intOf i).toNat)
  case atStart => exact ⟨0, _, _, Nat.zero_le _, rfl, h0⟩
  case round =>
    clear h0
    obtain ⟨k, sl, E, hk, rfl, hI⟩ := hrel
    by_cases hlt : k < n
    · -- <<A
      obtain ⟨b, o, rfl, hbl, hrow⟩ := hS.row k hlt
      have hok := hS.ok k hlt
      have hid := hS.id k hlt
      have rr : ∀ i, i < 6 → wr.cell? ⟨b, o + k * 6 + i, none⟩ = (S k).cells[i]? := fun i hi => (hI.below.cell (p := ⟨b, o + k * 6 + i, none⟩) hbl).trans (hrow i hi)
      have r0 := rr 0 (by omega)
      have r1 := rr 1 (by omega)
      have r2 := rr 2 (by omega)
      have r3 := rr 3 (by omega)
      have r4 := rr 4 (by omega)
      have r5 := rr 5 (by omega)
      simp [Sch.cells] at r0 r1 r2 r3 r4 r5
      clear rr hrow
      have hb1 : Below wr.heap.size wr (wr.alloc (.cells (S k).cells 55)) := (Below.refl _ _).alloc (Nat.le_refl _) _
      have hI1 := hI.kept hb1
      have hs1 := blk_new wr 55 (S k).cells
      clear hI hb1
      unfold Sch.cells at hI1 hs1
      go_upto_region 12 with fail
      generalize wr.alloc (.cells #[.string (S k).id, .string (S k).nm, .string (S k).sp, .slice (S k).A (S k).n (S k).cap, .int .i64 (S k).cr, .int .i64 (S k).nx] 55) = W1 at hI1 hs1 ⊢
      have t1 := hI1.t
      have hlt1 := t1.lt
      have hls1 := hs1.lt
      have hSS : ∀ w', Below W1.heap.size W1 w' → (w'.cell? ⟨wr.heap.size, 0, none⟩ = some (.string (S k).id) ∧ w'.cell? ⟨wr.heap.size, 1, none⟩ = some (.string (S k).nm) ∧ w'.cell? ⟨wr.heap.size, 2, none⟩ = some (.string (S k).sp) ∧ w'.cell? ⟨wr.heap.size, 3, none⟩ = some (.slice (S k).A (S k).n (S k).cap) ∧ w'.cell? ⟨wr.heap.size, 4, none⟩ = some (.int .i64 (S k).cr) ∧ w'.cell? ⟨wr.heap.size, 5, none⟩ = some (.int .i64 (S k).nx) ∧ w'.cell? ⟨tb, 0, none⟩ = some (.int .u64 0) ∧ w'.cell? ⟨tb, 1, none⟩ = some (.int .i64 0) ∧ w'.cell? ⟨tb, 2, none⟩ = some (.pointer none)) ∧ Below W1.heap.size W1 w' := fun w' hb' =>
        ⟨⟨(hb'.cell (p := ⟨wr.heap.size, 0, none⟩) hls1).trans (hs1.cell 0), (hb'.cell (p := ⟨wr.heap.size, 1, none⟩) hls1).trans (hs1.cell 1), (hb'.cell (p := ⟨wr.heap.size, 2, none⟩) hls1).trans (hs1.cell 2), (hb'.cell (p := ⟨wr.heap.size, 3, none⟩) hls1).trans (hs1.cell 3), (hb'.cell (p := ⟨wr.heap.size, 4, none⟩) hls1).trans (hs1.cell 4), (hb'.cell (p := ⟨wr.heap.size, 5, none⟩) hls1).trans (hs1.cell 5), (hb'.cell (p := ⟨tb, 0, none⟩) hlt1).trans (t1.cell 0), (hb'.cell (p := ⟨tb, 1, none⟩) hlt1).trans (t1.cell 1), (hb'.cell (p := ⟨tb, 2, none⟩) hlt1).trans (t1.cell 2)⟩, hb'⟩
      have hd : Below W1.heap.size W1 W1.drew := (Below.refl _ _).drew
      have cr0 := hok.cr0
      have cr1 := hok.cr1
      have nx0 := hok.nx0
      have nx1 := hok.nx1
      go_cut [15] from 33 to 78 (fun v wx => ∃ eb, v = .pointer (some ⟨eb, 0, none⟩) ∧ Blk wx eb 65 (S k).entry ∧ Below W1.heap.size W1 wx)
      case first =>
        clear r0 r1 r2 r3 r4 r5 hok hS hI1 hg ha hF
        go_region_held3 (fun w' => (w'.cell? ⟨wr.heap.size, 0, none⟩ = some (.string (S k).id) ∧ w'.cell? ⟨wr.heap.size, 1, none⟩ = some (.string (S k).nm) ∧ w'.cell? ⟨wr.heap.size, 2, none⟩ = some (.string (S k).sp) ∧ w'.cell? ⟨wr.heap.size, 3, none⟩ = some (.slice (S k).A (S k).n (S k).cap) ∧ w'.cell? ⟨wr.heap.size, 4, none⟩ = some (.int .i64 (S k).cr) ∧ w'.cell? ⟨wr.heap.size, 5, none⟩ = some (.int .i64 (S k).nx) ∧ w'.cell? ⟨tb, 0, none⟩ = some (.int .u64 0) ∧ w'.cell? ⟨tb, 1, none⟩ = some (.int .i64 0) ∧ w'.cell? ⟨tb, 2, none⟩ = some (.pointer none)) ∧ Below W1.heap.size W1 w') (first | exact hSS _ hd | exact hSS _ hB2 | exact hSS _ (hB2.alloc hB2.size _) | fail)
          (first | (go_at_call 6; refine (add_zero _ _ ?a1 ?a2).mono ?_; (case a1 => first | exact cr0 | exact nx0); (case a2 => first | exact cr1 | exact nx1); rintro e w2 ⟨rfl, hb2⟩; have hB2 : Below W1.heap.size W1 w2 := (by first | exact hd.trans (hb2.mono hd.size) | exact hB2.trans (hb2.mono hB2.size) | fail)) | fail)
        all_goals (go_wp2_with fail; go_meet; exact ⟨_, rfl, blk_new _ 65 _, hB2.alloc hB2.size _⟩)
      case rest =>
        obtain ⟨eb, rfl, he, hbc⟩ := hcut
        have hI2 := hI1.kept hbc
        have s2 := below_blk hbc hs1 hls1
        obtain ⟨w4, hupd, hI4⟩ := hI2.put (by omega) hid he
        have q18 := hI2.q.cell 18
        have sid := s2.cell 0
        simp [qCells] at q18
        simp at sid
        obtain ⟨xs, hown⟩ := hI4.own
        obtain ⟨A', cap', rfl, _, _⟩ := owns_view hown
        have q19 := hI4.q.cell 19
        simp [qCells] at q19
        have hz4 := hI4.below.size
        obtain ⟨i56, hi56, z56a, z56b, z56c⟩ := info_parts info56
        clear hSS hd hs1 hI1 hI2 he hbc s2 r0 r1 r2 r3 r4 r5 t1 hlt1 hls1 hok hg ha hF
        go_upto_region 13 with fail
        go_region
        clear hupd q18 sid
        go_wp2_with (at_builtin; refine wpList_append_own_at _ rfl _ _ 48 rfl w.heap.size 56 i56 (.pointer none) 1 8 Ybaf.underlying48 hi56 z56a z56b z56c rfl (by decide) _ _ _ rfl (hown.alloc _) ⟨w4.heap.size, 0, none⟩ 1 1 [.pointer (some ⟨eb, 0, none⟩)] rfl rfl (cell_one_new _ _ _) (one_ptr _) (by unfold maxLen; omega) (by omega) (by simp; omega) ?_)
        intro v5 w5 hown5 hg5 _ _
        obtain ⟨A5, cap5, rfl, _, _⟩ := owns_view hown5
        obtain ⟨hq5, hI5⟩ := hI4.app hg5 hown5
        have q5 := hq5.cell 19
        have q5z := hq5.frozen 19
        simp [qCells] at q5
        clear hown hown5 hg5 hI4 hq5 q19
        go_wp2_with fail
        go_roundw
        case rel => exact ⟨k + 1, _, _, by omega, by go_num, hI5⟩
        case measure => simp [intOf]; omega
      -- A>>
    · obtain rfl : n = k := by omega
      go_upto_region 16 with fail
      go_cut [87] from 80 (fun c wx => c = .bool (decide (0 < n ∧ pick % 2 = 0)) ∧ wx = wr)
      case first =>
        by_cases h0 : 0 < n
        · by_cases hp : pick % 2 = 0
          · have hdd : decide (0 < n ∧ pick % 2 = 0) = true := decide_eq_true ⟨h0, hp⟩
            go_wp2_with fail
            go_meet
            exact ⟨by simp [hdd], rfl⟩
          · have hdd : decide (0 < n ∧ pick % 2 = 0) = false := decide_eq_false fun h => hp h.2
            go_wp2_with fail
            go_meet
            exact ⟨by simp [hp], rfl⟩
        · have hdd : decide (0 < n ∧ pick % 2 = 0) = false := decide_eq_false fun h => h0 h.1
          go_wp2_with fail
          go_meet
          exact ⟨by simp [hdd], rfl⟩
      case rest =>
        obtain ⟨rfl, rfl⟩ := hcut
        go_upto_if 87 with fail
        go_cut [16] from 87 (fun v wx => (∃ id : ByteArray, v = .string id ∧ id.size ≤ maxLen) ∧ wx = wc)
        case first =>
          by_cases hdd : decide (0 < n ∧ pick % 2 = 0) = true
          · obtain ⟨h0, hp⟩ := of_decide_eq_true hdd
            rw [hdd]
            obtain ⟨d, hd0⟩ : ∃ d, d = pick / 2 := ⟨_, rfl⟩
            have hd1 : 0 ≤ d ∧ d < 65536 := by omega
            have e0 : pick.tdiv 2 = d := by rw [Int.tdiv_eq_ediv_of_nonneg hp0, hd0]
            have e1 : IntKind.u16.wrap d = d := by simp [IntKind.wrap, IntKind.bits, IntKind.signed]; omega
            have e2 : wrap64 d = d := by unfold wrap64; omega
            have hlt := Int.emod_lt_of_pos d (show (0 : Int) < n by omega)
            have hge := Int.emod_nonneg d (show (n : Int) ≠ 0 by omega)
            obtain ⟨c, hc⟩ : ∃ c : Nat, d % (n : Int) = (c : Int) := ⟨(d % (n : Int)).toNat, by omega⟩
            have e3 : d.tmod (n : Int) = (c : Int) := by rw [Int.tmod_eq_emod_of_nonneg hd1.1, hc]
            have hcn : c < n := by omega
            clear hd0 hlt hge
            obtain ⟨b, o, rfl, hbl, hrow⟩ := hS.row c hcn
            have r0 := (hI.below.cell (p := ⟨b, o + c * 6, none⟩) hbl).trans (hrow 0 (by omega))
            simp [Sch.cells] at r0
            have hidc := hS.id c hcn
            clear hrow
            go_wp2_with fail
            go_meet
            exact ⟨⟨_, rfl, hidc⟩, rfl⟩
          · simp only [Bool.not_eq_true] at hdd
            rw [hdd]
            go_wp2_with fail
            go_meet
            exact ⟨⟨query, rfl, hqs⟩, rfl⟩
        case rest =>
          obtain ⟨⟨id, rfl, hid⟩, rfl⟩ := hcut
          have st : Stands wc qb cb fb sb mb n sl fl ⟨pb, 0, none⟩ (putF S E n) (putH S n) := ⟨hI.q, hI.c, hI.f, hI.s, hI.m⟩
          rcases last_or S id n with ⟨j, hj, hu, hl⟩ | hl
          · -- <<B
            obtain ⟨hh, hff⟩ := put_found S E id j hu n hj hl
            have Hu : Hid ((S j).id = id) := hu
            have Hl : Hid (∀ i, j < i → i < n → (S i).id ≠ id) := hl
            clear hu hl
            go_wp2_with fail
            refine (sched_found st id hid hh (E j) hff (S j) (hI.e j hj)).mono ?_
            rintro e w5 ⟨rfl, hb5⟩
            have cb1 := hI.cn
            have hbc : Below w.heap.size w (wc.setCell ⟨cb, 0, none⟩ (.int .i64 1)) := hI.below.setCell hI.cn _
            have b5 : Below w.heap.size w w5 := hbc.trans (hb5.mono (by simpa [World.setCell] using hI.below.size))
            have Q5 := below_blk hb5 (hI.q.setOther (hI.c.ne hI.q (by decide)) 0 (.int .i64 1)) hI.q.lt
            have C5 : Blk w5 cb 3 #[.int .i64 1] := below_blk hb5 (hI.c.set 0 (.int .i64 1)) hI.c.lt
            have F5 := below_blk hb5 (hI.f.setOther (hI.c.ne hI.f (by decide)) 0 (.int .i64 1)) hI.f.lt
            have S5 := below_blk hb5 (hI.s.setOther (hI.c.ne hI.s (by decide)) 0 (.int .i64 1)) hI.s.lt
            have G6 := blk_new w5 61 (S j).view
            have Q6 := Q5.alloc (.cells (S j).view 61)
            have C6 := C5.alloc (.cells (S j).view 61)
            have F6 := F5.alloc (.cells (S j).view 61)
            have S6 := S5.alloc (.cells (S j).view 61)
            have b6 : Below w.heap.size w (w5.alloc (.cells (S j).view 61)) := b5.alloc b5.size _
            have c6 := C6.cell 0
            have f6 := F6.cell 0
            have s6 := S6.cell 0
            have q6 := Q6.cell 2
            have q6z := Q6.frozen 2
            simp [qCells] at q6
            simp at c6 f6 s6
            clear hbc b5 Q5 C5 F5 S5 hb5 C6 F6 S6
            unfold Sch.view at G6 Q6 b6 c6 f6 s6 q6 q6z ⊢
            go_wp2_with fail
            generalize hW6 : (World.alloc _ _ : World) = W6 at G6 Q6 b6 c6 f6 s6 q6 q6z ⊢
            generalize w5.heap.size = gb at G6 ⊢
            clear hW6
            refine (trylock_free ⟨qb, 2, none⟩ W6 q6 q6z).mono ?_
            rintro e w7 ⟨rfl, rfl⟩
            go_wp2_with fail
            refine (unlock_held muLib ⟨qb, 2, none⟩ _ (World.cell?_setCell_same W6 ⟨qb, 2, none⟩ (.int .i32 1) q6) (by simp [go_sem, q6z])).mono ?_
            rintro e w8 ⟨rfl, rfl⟩
            rw [setCell_back W6 _ _ _ q6]
            clear Q6 q6 q6z c6
            go_wp2_with fail
            go_loopw [20] (fun i wr => ∃ m : Nat, j ≤ m ∧ m < n ∧ i = .int .i64 m ∧ wr = W6) (fun i _ => (intOf i).toNat)
            case atStart => exact ⟨n - 1, by omega, by omega, by congr; omega, rfl⟩
            case round =>
              obtain ⟨m, hm1, hm2, rfl, hwr⟩ := hrel
              have hwr' := hwr.symm
              subst hwr'
              obtain ⟨b, o, rfl, hbl, hrow⟩ := hS.row m hm2
              have r0 := (b6.cell (p := ⟨b, o + m * 6, none⟩) hbl).trans (hrow 0 (by omega))
              simp [Sch.cells] at r0
              by_cases e : m = j
              · subst e
                have hbl6 : b < W6.heap.size := Nat.lt_of_lt_of_le hbl b6.size
                have hSS : ∀ w', Below W6.heap.size W6 w' → (w'.cell? ⟨gb, 0, none⟩ = some (.string (S m).id) ∧ w'.cell? ⟨gb, 1, none⟩ = some (.string (S m).nm) ∧ w'.cell? ⟨gb, 2, none⟩ = some (.string ⟨#[]⟩) ∧ w'.cell? ⟨gb, 3, none⟩ = some (.string (S m).sp) ∧ w'.cell? ⟨gb, 4, none⟩ = some (.slice (S m).A (S m).n (S m).cap) ∧ w'.cell? ⟨gb, 5, none⟩ = some (.int .u64 (tNs (S m).cr)) ∧ w'.cell? ⟨gb, 6, none⟩ = some (.int .i64 (tSec (S m).cr)) ∧ w'.cell? ⟨gb, 7, none⟩ = some (.pointer none) ∧ w'.cell? ⟨gb, 8, none⟩ = some (.int .u64 0) ∧ w'.cell? ⟨gb, 9, none⟩ = some (.int .i64 0) ∧ w'.cell? ⟨gb, 10, none⟩ = some (.pointer none) ∧ w'.cell? ⟨gb, 11, none⟩ = some (.int .u64 (tNs (S m).nx)) ∧ w'.cell? ⟨gb, 12, none⟩ = some (.int .i64 (tSec (S m).nx)) ∧ w'.cell? ⟨gb, 13, none⟩ = some (.pointer none) ∧ w'.cell? ⟨b, o + m * 6, none⟩ = some (.string (S m).id) ∧ w'.cell? ⟨b, o + m * 6 + 1, none⟩ = some (.string (S m).nm) ∧ w'.cell? ⟨b, o + m * 6 + 2, none⟩ = some (.string (S m).sp) ∧ w'.cell? ⟨b, o + m * 6 + 3, none⟩ = some (.slice (S m).A (S m).n (S m).cap) ∧ w'.cell? ⟨b, o + m * 6 + 4, none⟩ = some (.int .i64 (S m).cr) ∧ w'.cell? ⟨b, o + m * 6 + 5, none⟩ = some (.int .i64 (S m).nx)) ∧ Below W6.heap.size W6 w' := fun w' hb' => ⟨⟨(hb'.cell (p := ⟨gb, 0, none⟩) G6.lt).trans (G6.cell 0), (hb'.cell (p := ⟨gb, 1, none⟩) G6.lt).trans (G6.cell 1), (hb'.cell (p := ⟨gb, 2, none⟩) G6.lt).trans (G6.cell 2), (hb'.cell (p := ⟨gb, 3, none⟩) G6.lt).trans (G6.cell 3), (hb'.cell (p := ⟨gb, 4, none⟩) G6.lt).trans (G6.cell 4), (hb'.cell (p := ⟨gb, 5, none⟩) G6.lt).trans (G6.cell 5), (hb'.cell (p := ⟨gb, 6, none⟩) G6.lt).trans (G6.cell 6), (hb'.cell (p := ⟨gb, 7, none⟩) G6.lt).trans (G6.cell 7), (hb'.cell (p := ⟨gb, 8, none⟩) G6.lt).trans (G6.cell 8), (hb'.cell (p := ⟨gb, 9, none⟩) G6.lt).trans (G6.cell 9), (hb'.cell (p := ⟨gb, 10, none⟩) G6.lt).trans (G6.cell 10), (hb'.cell (p := ⟨gb, 11, none⟩) G6.lt).trans (G6.cell 11), (hb'.cell (p := ⟨gb, 12, none⟩) G6.lt).trans (G6.cell 12), (hb'.cell (p := ⟨gb, 13, none⟩) G6.lt).trans (G6.cell 13), (hb'.cell (p := ⟨b, o + m * 6, none⟩) hbl6).trans ((b6.cell (p := ⟨b, o + m * 6, none⟩) hbl).trans (hrow 0 (by omega))), (hb'.cell (p := ⟨b, o + m * 6 + 1, none⟩) hbl6).trans ((b6.cell (p := ⟨b, o + m * 6 + 1, none⟩) hbl).trans (hrow 1 (by omega))), (hb'.cell (p := ⟨b, o + m * 6 + 2, none⟩) hbl6).trans ((b6.cell (p := ⟨b, o + m * 6 + 2, none⟩) hbl).trans (hrow 2 (by omega))), (hb'.cell (p := ⟨b, o + m * 6 + 3, none⟩) hbl6).trans ((b6.cell (p := ⟨b, o + m * 6 + 3, none⟩) hbl).trans (hrow 3 (by omega))), (hb'.cell (p := ⟨b, o + m * 6 + 4, none⟩) hbl6).trans ((b6.cell (p := ⟨b, o + m * 6 + 4, none⟩) hbl).trans (hrow 4 (by omega))), (hb'.cell (p := ⟨b, o + m * 6 + 5, none⟩) hbl6).trans ((b6.cell (p := ⟨b, o + m * 6 + 5, none⟩) hbl).trans (hrow 5 (by omega)))⟩, hb'⟩
                have hd : Below W6.heap.size W6 W6.drew := (Below.refl _ _).drew
                have hok : (S m).Ok W6.drew := ((hS.ok m hm2).below b6).below hd
                have hcs := fun W h => csame_any (S m) W h
                have hnq := neq_same
                have hfin : ∀ w', Below W6.heap.size W6 w' → Below w.heap.size w w' := fun w' h => b6.trans (h.mono b6.size)
                unfold Sch.view Sch.cells at hcs
                rw [Hu.out] at r0
                cases fl with
                | true =>
                  simp only [said, if_true]
                  go_wp2_with fail
                  go_region_held3 (fun w' => (w'.cell? ⟨gb, 0, none⟩ = some (.string (S m).id) ∧ w'.cell? ⟨gb, 1, none⟩ = some (.string (S m).nm) ∧ w'.cell? ⟨gb, 2, none⟩ = some (.string ⟨#[]⟩) ∧ w'.cell? ⟨gb, 3, none⟩ = some (.string (S m).sp) ∧ w'.cell? ⟨gb, 4, none⟩ = some (.slice (S m).A (S m).n (S m).cap) ∧ w'.cell? ⟨gb, 5, none⟩ = some (.int .u64 (tNs (S m).cr)) ∧ w'.cell? ⟨gb, 6, none⟩ = some (.int .i64 (tSec (S m).cr)) ∧ w'.cell? ⟨gb, 7, none⟩ = some (.pointer none) ∧ w'.cell? ⟨gb, 8, none⟩ = some (.int .u64 0) ∧ w'.cell? ⟨gb, 9, none⟩ = some (.int .i64 0) ∧ w'.cell? ⟨gb, 10, none⟩ = some (.pointer none) ∧ w'.cell? ⟨gb, 11, none⟩ = some (.int .u64 (tNs (S m).nx)) ∧ w'.cell? ⟨gb, 12, none⟩ = some (.int .i64 (tSec (S m).nx)) ∧ w'.cell? ⟨gb, 13, none⟩ = some (.pointer none) ∧ w'.cell? ⟨b, o + m * 6, none⟩ = some (.string (S m).id) ∧ w'.cell? ⟨b, o + m * 6 + 1, none⟩ = some (.string (S m).nm) ∧ w'.cell? ⟨b, o + m * 6 + 2, none⟩ = some (.string (S m).sp) ∧ w'.cell? ⟨b, o + m * 6 + 3, none⟩ = some (.slice (S m).A (S m).n (S m).cap) ∧ w'.cell? ⟨b, o + m * 6 + 4, none⟩ = some (.int .i64 (S m).cr) ∧ w'.cell? ⟨b, o + m * 6 + 5, none⟩ = some (.int .i64 (S m).nx)) ∧ Below W6.heap.size W6 w') (first | exact hSS _ hd | exact hSS _ hB2 | fail)
                    (first | (go_at_call 12; refine (hcs _ hok).mono ?_; rintro e w9 ⟨rfl, hb9⟩; have hB2 : Below W6.heap.size W6 w9 := hd.trans hb9) | fail)
                  all_goals (go_wp2_with fail; go_ret; exact ⟨rfl, hfin _ hB2⟩)
                | false =>
                  simp only [said, Bool.false_eq_true, if_false]
                  go_wp2_with fail
                  go_region_held3 (fun w' => (w'.cell? ⟨gb, 0, none⟩ = some (.string (S m).id) ∧ w'.cell? ⟨gb, 1, none⟩ = some (.string (S m).nm) ∧ w'.cell? ⟨gb, 2, none⟩ = some (.string ⟨#[]⟩) ∧ w'.cell? ⟨gb, 3, none⟩ = some (.string (S m).sp) ∧ w'.cell? ⟨gb, 4, none⟩ = some (.slice (S m).A (S m).n (S m).cap) ∧ w'.cell? ⟨gb, 5, none⟩ = some (.int .u64 (tNs (S m).cr)) ∧ w'.cell? ⟨gb, 6, none⟩ = some (.int .i64 (tSec (S m).cr)) ∧ w'.cell? ⟨gb, 7, none⟩ = some (.pointer none) ∧ w'.cell? ⟨gb, 8, none⟩ = some (.int .u64 0) ∧ w'.cell? ⟨gb, 9, none⟩ = some (.int .i64 0) ∧ w'.cell? ⟨gb, 10, none⟩ = some (.pointer none) ∧ w'.cell? ⟨gb, 11, none⟩ = some (.int .u64 (tNs (S m).nx)) ∧ w'.cell? ⟨gb, 12, none⟩ = some (.int .i64 (tSec (S m).nx)) ∧ w'.cell? ⟨gb, 13, none⟩ = some (.pointer none) ∧ w'.cell? ⟨b, o + m * 6, none⟩ = some (.string (S m).id) ∧ w'.cell? ⟨b, o + m * 6 + 1, none⟩ = some (.string (S m).nm) ∧ w'.cell? ⟨b, o + m * 6 + 2, none⟩ = some (.string (S m).sp) ∧ w'.cell? ⟨b, o + m * 6 + 3, none⟩ = some (.slice (S m).A (S m).n (S m).cap) ∧ w'.cell? ⟨b, o + m * 6 + 4, none⟩ = some (.int .i64 (S m).cr) ∧ w'.cell? ⟨b, o + m * 6 + 5, none⟩ = some (.int .i64 (S m).nx)) ∧ Below W6.heap.size W6 w') (first | exact hSS _ hd | exact hSS _ hB2 | fail)
                    (first | (go_at_call 12; refine (hcs _ hok).mono ?_; rintro e w9 ⟨rfl, hb9⟩; have hB2 : Below W6.heap.size W6 w9 := hd.trans hb9) | fail)
                  all_goals (go_wp2_with fail; go_ret; exact ⟨rfl, hfin _ hB2⟩)
              · have hne : (S m).id ≠ id := Hl.out m (by omega) hm2
                obtain ⟨m', rfl⟩ : ∃ m', m = m' + 1 := ⟨m - 1, by omega⟩
                have hnb := str_ne hne
                clear hwr
                go_wp2_with fail
                exact ⟨⟨m', by omega, by omega, rfl, trivial⟩, by simp [intOf]⟩
            -- B>>
          · have hh := put_none S id n hl
            have Hl : Hid (∀ i, i < n → (S i).id ≠ id) := hl
            clear hl
            have h0lt := World.block_lt_of_cell? w _ hg
            have halt := World.block_lt_of_cell? w _ ha
            have hqn := hI.qn
            have hgc := (hI.below.cell (p := ⟨0, 0, none⟩) h0lt).trans hg
            have hac := (hI.below.cell halt).trans ha
            have hFc : F.answers wc.tape := by rw [hI.below.tape]; exact hF
            go_wp2_with fail
            refine (sched_none F a t st id hid hh hFc hgc hac (by have : 0 < w.heap.size := h0lt; omega) (by omega)).mono ?_
            rintro e w5 ⟨N, rfl, hN, hb5⟩
            have cb1 := hI.cn
            have hbc : Below w.heap.size w (wc.setCell ⟨cb, 0, none⟩ (.int .i64 1)) := hI.below.setCell hI.cn _
            have b5 : Below w.heap.size w w5 := hbc.trans (hb5.mono (by simpa [World.setCell] using hI.below.size))
            have Q5 := below_blk hb5 (hI.q.setOther (hI.c.ne hI.q (by decide)) 0 (.int .i64 1)) hI.q.lt
            have C5 : Blk w5 cb 3 #[.int .i64 1] := below_blk hb5 (hI.c.set 0 (.int .i64 1)) hI.c.lt
            have F5 := below_blk hb5 (hI.f.setOther (hI.c.ne hI.f (by decide)) 0 (.int .i64 1)) hI.f.lt
            have S5 := below_blk hb5 (hI.s.setOther (hI.c.ne hI.s (by decide)) 0 (.int .i64 1)) hI.s.lt
            have G6 := blk_new w5 61 zero61
            have Q6 := Q5.alloc (.cells zero61 61)
            have C6 := C5.alloc (.cells zero61 61)
            have F6 := F5.alloc (.cells zero61 61)
            have S6 := S5.alloc (.cells zero61 61)
            have b6 : Below w.heap.size w (w5.alloc (.cells zero61 61)) := b5.alloc b5.size _
            have n6 := (Below.cell (((Below.refl w5.heap.size w5).alloc (Nat.le_refl _) (.cells zero61 61))) (p := ⟨N, 1, none⟩) (World.block_lt_of_cell? w5 _ hN)).trans hN
            have c6 := C6.cell 0
            have f6 := F6.cell 0
            have s6 := S6.cell 0
            have q6 := Q6.cell 2
            have q6z := Q6.frozen 2
            simp [qCells] at q6
            simp at c6 f6 s6
            clear hbc b5 Q5 C5 F5 S5 hb5 C6 F6 S6
            unfold zero61 at G6 Q6 b6 c6 f6 s6 q6 q6z n6 ⊢
            go_wp2_with fail
            generalize hW6 : (World.alloc _ _ : World) = W6 at G6 Q6 b6 c6 f6 s6 q6 q6z n6 ⊢
            generalize w5.heap.size = gb at G6 ⊢
            clear hW6
            refine (trylock_free ⟨qb, 2, none⟩ W6 q6 q6z).mono ?_
            rintro e w7 ⟨rfl, rfl⟩
            go_wp2_with fail
            refine (unlock_held muLib ⟨qb, 2, none⟩ _ (World.cell?_setCell_same W6 ⟨qb, 2, none⟩ (.int .i32 1) q6) (by simp [go_sem, q6z])).mono ?_
            rintro e w8 ⟨rfl, rfl⟩
            rw [setCell_back W6 _ _ _ q6]
            clear Q6 q6 q6z c6
            go_wp2_with fail
            go_loopw [19, 20] (fun v i wr => ∃ m : Nat, v = .int .i64 (-1) ∧ m ≤ n ∧ i = .int .i64 ((m : Int) - 1) ∧ wr = W6) (fun _ i _ => (intOf i + 1).toNat)
            case atStart => exact ⟨n, rfl, Nat.le_refl _, rfl, rfl⟩
            case round =>
              obtain ⟨m, rfl, hm, rfl, hwr⟩ := hrel
              have hwr' := hwr.symm
              subst hwr'
              clear hwr
              cases m with
              | zero =>
                have g0 : W6.cell? ⟨gb, 0, none⟩ = some (.string ⟨#[]⟩) := G6.cell 0
                have g1 : W6.cell? ⟨gb, 1, none⟩ = some (.string ⟨#[]⟩) := G6.cell 1
                have g2 : W6.cell? ⟨gb, 2, none⟩ = some (.string ⟨#[]⟩) := G6.cell 2
                have g3 : W6.cell? ⟨gb, 3, none⟩ = some (.string ⟨#[]⟩) := G6.cell 3
                have g4 : W6.cell? ⟨gb, 4, none⟩ = some (.slice none 0 0) := G6.cell 4
                have g5 : W6.cell? ⟨gb, 5, none⟩ = some (.int .u64 0) := G6.cell 5
                have g6 : W6.cell? ⟨gb, 6, none⟩ = some (.int .i64 0) := G6.cell 6
                have g7 : W6.cell? ⟨gb, 7, none⟩ = some (.pointer none) := G6.cell 7
                have g8 : W6.cell? ⟨gb, 8, none⟩ = some (.int .u64 0) := G6.cell 8
                have g9 : W6.cell? ⟨gb, 9, none⟩ = some (.int .i64 0) := G6.cell 9
                have g10 : W6.cell? ⟨gb, 10, none⟩ = some (.pointer none) := G6.cell 10
                have g11 : W6.cell? ⟨gb, 11, none⟩ = some (.int .u64 0) := G6.cell 11
                have g12 : W6.cell? ⟨gb, 12, none⟩ = some (.int .i64 0) := G6.cell 12
                have g13 : W6.cell? ⟨gb, 13, none⟩ = some (.pointer none) := G6.cell 13
                have hg6 := (b6.cell (p := ⟨0, 0, none⟩) h0lt).trans hg
                have hnq := neq_same
                have hz := zero_any
                unfold zero61 at hz
                cases fl with
                | true =>
                  simp only [errOf, said, if_true]
                  go_wp2_with fail
                  refine (hz _).mono ?_
                  rintro e w9 ⟨rfl, hb9⟩
                  go_wp2_with fail
                  go_ret
                  exact ⟨rfl, b6.trans (hb9.mono b6.size)⟩
                | false =>
                  simp only [errOf, said, Bool.false_eq_true, if_false]
                  go_wp2_with fail
                  refine (is_wrap N 0 a W6 n6).mono ?_
                  rintro e w8 ⟨rfl, hw8⟩
                  obtain rfl := hw8.symm
                  go_wp2_with fail
                  refine (hz _).mono ?_
                  rintro e w9 ⟨rfl, hb9⟩
                  go_wp2_with fail
                  go_ret
                  exact ⟨rfl, b6.trans (hb9.mono b6.size)⟩
              | succ m =>
                obtain ⟨b, o, rfl, hbl, hrow⟩ := hS.row m (by omega)
                have r0 := (b6.cell (p := ⟨b, o + m * 6, none⟩) hbl).trans (hrow 0 (by omega))
                simp [Sch.cells] at r0
                have hnb := str_ne (Hl.out m (by omega))
                clear hrow
                go_wp2_with fail
                exact ⟨⟨m, rfl, by omega, rfl, trivial⟩, by simp [intOf]⟩
end Go.Proofs.YbulkcfnoFmt
