/-
  zzs4084amodel (9).
-/
import Derived.Test.YbulkcfocFmtLook
import Derived.Deep.QuietTactic
namespace Go.Proofs.YbulkcfocFmt
open Go Go.RowKit Go.Maps

def jc : Option Nat → Int
  | none => -1
  | some j => j

theorem str_ne {a b : ByteArray} (h : a ≠ b) : (a.toList == b.toList) = false := by
  rw [beq_eq_false_iff_ne]
  intro e
  rw [ByteArray.toList_eq, ByteArray.toList_eq] at e
  apply h
  cases a; cases b
  simp at e
  simp [e]

theorem drewN_blk {w : World} {b : Nat} {t : TypeId} {cs : Array Value} (q : Nat) (h : Blk w b t cs) : Blk (w.drewN q) b t cs := h
theorem drewN_below {B : Nat} {a w : World} (q : Nat) (h : Below B a w) : Below B a (w.drewN q) := h.trans ⟨rfl, rfl, rfl, Nat.le_refl _, fun _ _ => rfl⟩

set_option maxRecDepth 100000 in
set_option maxHeartbeats 1000000 in
theorem model_any (A : Option Addr) (n cap : Nat) (D : Nat → Df) (B : Nat) (b o pn pc : Nat) (Pt : Nat → ByteArray) (hz : Int) (w : World) (h : Dfs w B A n D) (hB : B ≤ w.heap.size) (hn : n ≤ 256) (hkn : ∀ j, j < n → (D j).kn ≤ 256)
    (hp : StrIs w B (some ⟨b, o, none⟩) pn Pt) (hp0 : 0 < pn) (hpm : pn ≤ maxLen) (R : Res) (hR : Hid (R = model D hz pn (Pt 0) (Pt 1) n)) :
    Calls Ybaf.prog 9 #[.slice A n cap, .slice (some ⟨b, o, none⟩) pn pc, .int .i64 hz] w fun e w' => e = .returned (.tuple #[.int .i64 R.code, .string R.text, .bool R.wrapped]) ∧ Below w.heap.size w w' := by
  unfold maxLen at hpm
  go_enter Ybaf.func9, Ybaf.ntmps9
  go_wp2_with fail
  go_loopw [9] (fun i wr => ∃ m : Nat, m ≤ n ∧ i = .int .i64 ((m : Int) - 1) ∧ Below w.heap.size w wr ∧ Hid (R = model D hz pn (Pt 0) (Pt 1) m)) (fun i _ => (intOf i + 1).toNat)
  case atStart => exact ⟨n, Nat.le_refl _, rfl, Below.refl _ _, hR⟩
  case round =>
    clear hR
    obtain ⟨m, hm, rfl, hbw, hmod⟩ := hrel
    have hsz := hbw.size
    cases m with
    | zero =>
      obtain rfl : R = .absent := hmod.out
      clear hmod
      go_wp2_with fail
      go_ret3
      exact ⟨rfl, hbw⟩
    | succ m =>
      obtain ⟨b', o', rfl, hbl, hrow⟩ := (h.below hbw hB).row m (by omega)
      have r0 := hrow 0 (by omega)
      have r1 := hrow 1 (by omega)
      have r2 := hrow 2 (by omega)
      have r3 := hrow 3 (by omega)
      simp [Df.cells] at r0 r1 r2 r3
      clear hrow
      have hblk := blk_new wr 57 (D m).cells
      have hb1 : Below w.heap.size w (wr.alloc (.cells (D m).cells 57)) := hbw.alloc hsz _
      by_cases hrk : hz ≤ (D m).rank
      · have hr : Hid (R = model D hz pn (Pt 0) (Pt 1) m) := hmod.out.trans (model_skip hrk)
        clear hmod h hp
        unfold Df.cells at hb1 hblk
        go_wp2_with fail
        exact ⟨⟨m, by omega, by go_num, hb1, hr⟩, by simp [intOf]⟩
      · have hone : Hid (R = (one (D m) pn (Pt 0) (Pt 1)).or (model D hz pn (Pt 0) (Pt 1) m)) := hmod.out.trans (model_take hrk)
        have hok := (h.ok m (by omega)).below hb1 hB
        have k0 := hok.k0
        have k1 := hok.k1
        have hk256 := hkn m (by omega)
        clear hmod
        by_cases h3 : (D m).kind % 3 = 0
        · obtain rfl : R = .hidden := by rw [hone.out]; simp [one, h3, Res.or]
          clear hone h hp
          unfold Df.cells at hb1 hblk
          go_wp2_with fail
          go_ret3
          exact ⟨rfl, hb1⟩
        · obtain ⟨kd, hkd⟩ : ∃ kd, (D m).kind % 3 = kd := ⟨_, rfl⟩
          have kd1 : 1 ≤ kd := by omega
          have kd2 : kd ≤ 2 := by omega
          clear h3
          have hp1 := hp.below hb1 hB
          obtain ⟨⟨_, _, e0, _, p0⟩, _⟩ := hp1 0 hp0
          injection e0 with e0
          injection e0 with e1 e2
          subst e1 e2
          simp only [Nat.add_zero] at p0
          unfold Df.cells at hb1 hblk hok p0 hp1
          go_upto_region 11 with fail
          generalize hW : (World.alloc _ _ : World) = W at hb1 hblk hok p0 hp1 ⊢
          clear hW
          generalize wr.heap.size = db at hblk ⊢
          have c2 := hblk.cell 2
          have c3 := hblk.cell 3
          simp at c2 c3
          clear r0 r1 r2 r3 hbw hsz
          go_loopw [12, 13] (fun j i wx => ∃ k q : Nat, k ≤ (D m).kn ∧ i = .int .i64 k ∧ j = .int .i64 (jc (last (D m).K (Pt 0) k)) ∧ wx = W.drewN q) (fun _ i _ => (D m).kn - (intOf i).toNat)
          case atStart => exact ⟨0, 0, Nat.zero_le _, rfl, rfl, rfl⟩
          case round =>
            obtain ⟨k, q, hk, rfl, rfl, rfl⟩ := hrel
            by_cases hlt : k < (D m).kn
            · obtain ⟨⟨bk, ok, hA, _, hc⟩, _⟩ := hok.keys k hlt
              rw [hA] at c2
              clear hone hok h hp hA hp1
              by_cases e : Pt 0 = (D m).K k
              · have e2 : ((D m).K k).toList == (Pt 0).toList := by rw [e]; simp
                have hl : jc (last (D m).K (Pt 0) (k + 1)) = k := by simp [last, e, jc]
                have Hl : Hid (jc (last (D m).K (Pt 0) (k + 1)) = k) := hl
                clear hl e
                go_wp2_with fail
                go_quiet (fail)
                go_wp2_with fail
                go_roundw
                case rel => exact ⟨k + 1, _, by omega, by go_num, by rw [Hl.out], rfl⟩
                case measure => simp [intOf]; omega
              · have e2 : (((D m).K k).toList == (Pt 0).toList) = false := str_ne (Ne.symm e)
                have hl : jc (last (D m).K (Pt 0) (k + 1)) = jc (last (D m).K (Pt 0) k) := by simp [last, e]
                have Hl : Hid (jc (last (D m).K (Pt 0) (k + 1)) = jc (last (D m).K (Pt 0) k)) := hl
                clear hl e
                go_wp2_with fail
                go_quiet (fail)
                go_wp2_with fail
                go_roundw
                case rel => exact ⟨k + 1, _, by omega, by go_num, by rw [Hl.out], rfl⟩
                case measure => simp [intOf]; omega
            · obtain rfl : (D m).kn = k := by omega
              clear hlt hk
              have hbq := drewN_below q hb1
              have hval := fun j hj => val_any (D m) B (W.drewN q) (hok.below (drewN_below q (Below.refl B W)) (Nat.le_refl _)) j hj
              cases hl : last (D m).K (Pt 0) (D m).kn with
              | none =>
                have hr : Hid (R = model D hz pn (Pt 0) (Pt 1) m) := by
                  rw [hone.out]
                  have : one (D m) pn (Pt 0) (Pt 1) = .absent := by
                    have : kd ≠ 0 := by omega
                    simp [one, hl, hkd, this]
                  rw [this]
                  rfl
                simp only [jc]
                clear hone hok h hp hp1 hval hl
                go_wp2_with fail
                exact ⟨⟨m, by omega, by go_num, hbq, hr⟩, by simp [intOf]⟩
              | some j =>
                have hj := last_lt hl
                have hvj := hval j (by unfold maxLen; omega)
                simp only [jc]
                have hkd0 : kd ≠ 0 := by omega
                by_cases hkd1 : kd = 1
                · subst hkd1
                  by_cases hpn : pn = 1
                  · subst hpn
                    obtain rfl : R = .str ((D m).val j) := by rw [hone.out]; simp [one, hl, hkd, Res.or]
                    clear hone hok h hp hp1 hval hl
                    go_wp2_with fail
                    refine hvj.mono ?_
                    rintro e w2 ⟨rfl, rfl⟩
                    go_wp2_with fail
                    go_ret3
                    exact ⟨rfl, hbq⟩
                  · obtain rfl : R = .hidden := by rw [hone.out]; simp [one, hl, hkd, hpn, Res.or]
                    have hpb : ((pn : Int) == 1) = false := by simp; omega
                    clear hone hok h hp hp1 hval hl
                    go_wp2_with fail
                    refine hvj.mono ?_
                    rintro e w2 ⟨rfl, rfl⟩
                    go_wp2_with fail
                    go_ret3
                    exact ⟨rfl, hbq⟩
                · obtain rfl : kd = 2 := by omega
                  by_cases hpn : pn = 1
                  · subst hpn
                    obtain rfl : R = .obj ((D m).val j) := by rw [hone.out]; simp [one, hl, hkd, Res.or]
                    clear hone hok h hp hp1 hval hl
                    go_wp2_with fail
                    refine hvj.mono ?_
                    rintro e w2 ⟨rfl, rfl⟩
                    go_wp2_with fail
                    go_ret3
                    exact ⟨rfl, hbq⟩
                  · obtain ⟨⟨_, _, e0, _, p1⟩, _⟩ := hp1 1 (by omega)
                    injection e0 with e0
                    injection e0 with e1 e2
                    subst e1 e2
                    have hpb : ((pn : Int) == 1) = false := by simp; omega
                    by_cases hx : Pt 1 = sx
                    · rw [hx] at p1
                      unfold sx at p1
                      by_cases hpn2 : pn = 2
                      · subst hpn2
                        obtain rfl : R = .str ((D m).val j) := by rw [hone.out]; simp [one, hl, hkd, hx, Res.or]
                        clear hone hok h hp hp1 hval hl hx
                        go_wp2_with fail
                        refine hvj.mono ?_
                        rintro e w2 ⟨rfl, rfl⟩
                        go_wp2_with fail
                        go_ret3
                        exact ⟨rfl, hbq⟩
                      · obtain rfl : R = .hidden := by rw [hone.out]; simp [one, hl, hkd, hx, hpn, hpn2, Res.or]
                        have hpb2 : ((pn : Int) == 2) = false := by simp; omega
                        clear hone hok h hp hp1 hval hl hx
                        go_wp2_with fail
                        refine hvj.mono ?_
                        rintro e w2 ⟨rfl, rfl⟩
                        go_wp2_with fail
                        go_ret3
                        exact ⟨rfl, hbq⟩
                    · have hr : Hid (R = model D hz pn (Pt 0) (Pt 1) m) := by
                        rw [hone.out]
                        have : one (D m) pn (Pt 0) (Pt 1) = .absent := by simp [one, hl, hkd, hx, hpn]
                        rw [this]
                        rfl
                      have hxb : ((Pt 1).toList == [120]) = false := by
                        have := str_ne hx
                        rwa [show sx.toList = [120] by rw [ByteArray.toList_eq]; rfl] at this
                      clear hone hok h hp hp1 hval hl hx
                      go_wp2_with fail
                      refine hvj.mono ?_
                      rintro e w2 ⟨rfl, rfl⟩
                      go_wp2_with fail
                      exact ⟨⟨m, by omega, by go_num, hbq, hr⟩, by simp [intOf]⟩
end Go.Proofs.YbulkcfocFmt
