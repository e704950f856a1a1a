import Derived.Test.YbulkcfnaPtr
import Derived.WalkKit
namespace Go.Proofs.Ybulkcfna.lawS4082AScript
open Go.MuLone Go.RowKit

theorem unlock_back (a : Addr) (w : World) (hc : w.cell? a = some (.int .i32 0)) (hz : w.frozen? a = false) :
    Calls Yba.prog 8 #[.pointer (some a)] (w.setCell a (.int .i32 1)) fun e w' => e = .returned (.tuple #[]) ∧ w = w' := by
  refine (unlock_held muLib a (w.setCell a (.int .i32 1)) (World.cell?_setCell_same w a _ hc) (by simp [hz])).mono ?_
  rintro e w' ⟨rfl, rfl⟩
  exact ⟨rfl, (setCell_back w _ _ _ hc).symm⟩

/-- What stands at every round's head: the slab's four cells, the lock free, the pointer c. -/
structure Inv (B : Nat) (w : World) (c : Option Addr) : Prop where
  slab : ∀ i : Nat, i < 4 → w.cell? ⟨B, i, none⟩ = some (.int .i64 (10 + i))
  lock : w.cell? ⟨B + 1, 0, none⟩ = some (.int .i32 0)
  p : w.cell? ⟨B + 1, 2, none⟩ = some (.pointer c)
  f0 : w.frozen? ⟨B + 1, 0, none⟩ = false
  f2 : w.frozen? ⟨B + 1, 2, none⟩ = false
  ins : inSlab B c
  size : B + 2 ≤ w.heap.size

theorem Inv.start (w : World) (c : Option Addr) (hc : inSlab w.heap.size c) : Inv w.heap.size ((w.alloc (.cells #[.int .i64 10, .int .i64 11, .int .i64 12, .int .i64 13] 3)).alloc (.cells #[.int .i32 0, .int .u32 0, .pointer c] 33)) c := by
  refine ⟨fun i hi => ?_, by simp [go_sem], by simp [go_sem], by simp [go_sem], by simp [go_sem], hc, by simp⟩
  match i, hi with
  | 0, _ => simp [go_sem]
  | 1, _ => simp [go_sem]
  | 2, _ => simp [go_sem]
  | 3, _ => simp [go_sem]

theorem Inv.alloc {B : Nat} {w : World} {c : Option Addr} (h : Inv B w c) (o : Obj) : Inv B (w.alloc o) c := by
  have hs := h.size
  refine ⟨fun i hi => ?_, ?_, ?_, ?_, ?_, h.ins, by simp; omega⟩
  · rw [World.cell?_alloc_past _ _ _ (by omega)]; exact h.slab i hi
  · rw [World.cell?_alloc_past _ _ _ (by omega)]; exact h.lock
  · rw [World.cell?_alloc_past _ _ _ (by omega)]; exact h.p
  · rw [World.frozen?_alloc_past _ _ _ (by omega)]; exact h.f0
  · rw [World.frozen?_alloc_past _ _ _ (by omega)]; exact h.f2

theorem Inv.store {B : Nat} {w : World} {c : Option Addr} (h : Inv B w c) (d : Option Addr) (hd : inSlab B d) : Inv B (w.setCell ⟨B + 1, 2, none⟩ (.pointer d)) d := by
  have hs := h.size
  refine ⟨fun i hi => ?_, ?_, ?_, ?_, ?_, hd, by simp; omega⟩
  · rw [World.cell?_setCell_other _ _ _ _ (by simp)]; exact h.slab i hi
  · rw [World.cell?_setCell_other _ _ _ _ (by simp)]; exact h.lock
  · exact World.cell?_setCell_same _ _ _ h.p
  · simp [h.f0]
  · simp [h.f2]

set_option maxRecDepth 100000 in
set_option maxHeartbeats 2000000 in
theorem walk (init : Int) (a : Option Addr) (len cap : Nat) (F : Nat → Nat → Int) (w : World) (hi0 : 0 ≤ init) (hi1 : init ≤ 255)
    (hl : len ≤ 1024) (ha : ∀ i, i < len → ∃ b o, a = some ⟨b, o, none⟩ ∧ b < w.heap.size ∧ ∀ j, j < 3 → w.cell? ⟨b, o + i * 3 + j, none⟩ = some (.int .u8 (F i j)) ∧ 0 ≤ F i j ∧ F i j ≤ 255) :
    Calls Yba.prog 3 #[.int .u8 init, .slice a len cap] w fun e w' => e = .returned (.bool true) ∧ Below w.heap.size w w' := by
  have hnot : ∀ (x : Bool) (w : World), (Op.unary .not (.bool x)).run Yba.prog w = .ok (.bool (!x)) w := fun _ _ => rfl
  have hp := pt_inSlab w.heap.size init hi0
  have hlen : decide ((1024 : Int) < (len : Int)) = false := by simp; omega
  go_enter Yba.func3, Yba.ntmps3
  go_wp2_with fail
  refine (ptr_any w.heap.size init _ hi0 hi1).mono ?_
  rintro e w' ⟨rfl, rfl⟩
  generalize pt w.heap.size init = c0 at *
  go_wp2_with fail
  go_loopw [7, 28] (fun cur i wr => ∃ (k : Nat) (c : Option Addr), k ≤ len ∧ i = .int .i64 k ∧ cur = .pointer c ∧ Inv w.heap.size wr c ∧ Below w.heap.size w wr) (fun _ i _ => len - (intOf i).toNat)
  case atStart => exact ⟨0, c0, Nat.zero_le _, rfl, rfl, Inv.start w c0 hp, ((Below.refl _ _).alloc (Nat.le_refl _) _).alloc (by simp) _⟩
  case round =>
    obtain ⟨k, c, hk, rfl, rfl, hI, hB⟩ := hrel
    by_cases hlt : k < len
    · obtain ⟨b, o, rfl, hb, hcells⟩ := ha k hlt
      have g0 := (hB.cell (p := ⟨b, o + k * 3 + 0, none⟩) hb).trans (hcells 0 (by omega)).1
      have g1 := (hB.cell (p := ⟨b, o + k * 3 + 1, none⟩) hb).trans (hcells 1 (by omega)).1
      have g2 := (hB.cell (p := ⟨b, o + k * 3 + 2, none⟩) hb).trans (hcells 2 (by omega)).1
      have b0 := (hcells 0 (by omega)).2
      have b1 := (hcells 1 (by omega)).2
      have b2 := (hcells 2 (by omega)).2
      clear hcells ha
      generalize F k 0 = x0 at *
      generalize F k 1 = x1 at *
      generalize F k 2 = x2 at *
      simp only [Nat.add_zero] at g0
      have e1 := neqI c c (inSlab_block hI.ins hI.ins)
      simp only [decide_true, Bool.not_true] at e1
      go_wp2_with fail
      generalize hW1 : wr.alloc (.cells #[.int .u8 x0, .int .u8 x1, .int .u8 x2] 36) = W1
      have hI1 : Inv w.heap.size W1 c := hW1 ▸ hI.alloc _
      have hB1 : Below w.heap.size w W1 := hW1 ▸ hB.alloc hB.size _
      have o0 : W1.cell? ⟨wr.heap.size, 0, none⟩ = some (.int .u8 x0) := by rw [← hW1]; simp [go_sem]
      have o1 : W1.cell? ⟨wr.heap.size, 1, none⟩ = some (.int .u8 x1) := by rw [← hW1]; simp [go_sem]
      have o2 : W1.cell? ⟨wr.heap.size, 2, none⟩ = some (.int .u8 x2) := by rw [← hW1]; simp [go_sem]
      have l1 := hI1.lock
      have p1 := hI1.p
      have lf := hI1.f0
      have pf := hI1.f2
      clear hW1 g0 g1 g2 hb
      refine (loadI_any (w.heap.size + 1) 0 (.pointer c) W1 l1 p1 lf).mono ?_
      rintro e w' ⟨rfl, rfl⟩
      go_wp2_with fail
      refine (trylock_free ⟨w.heap.size + 1, 0, none⟩ W1 l1 lf).mono ?_
      rintro e w' ⟨rfl, rfl⟩
      go_wp2_with fail
      refine (unlock_back ⟨w.heap.size + 1, 0, none⟩ W1 l1 lf).mono ?_
      rintro e w' ⟨rfl, rfl⟩
      go_wp2_with fail
      refine (loadI_any (w.heap.size + 1) 0 (.pointer c) W1 l1 p1 lf).mono ?_
      rintro e w' ⟨rfl, rfl⟩
      go_wp2_with fail
      refine (ptr_any w.heap.size x1 W1 b1.1 b1.2).mono ?_
      rintro e w' ⟨rfl, rfl⟩
      have ia := pt_inSlab w.heap.size x1 b1.1
      generalize pt w.heap.size x1 = ca at *
      go_wp2_with fail
      refine (ptr_any w.heap.size x2 W1 b2.1 b2.2).mono ?_
      rintro e w' ⟨rfl, rfl⟩
      have ib := pt_inSlab w.heap.size x2 b2.1
      generalize pt w.heap.size x2 = cb at *
      clear b1 b2
      obtain ⟨b00, b01⟩ := b0
      by_cases h0 : x0 % 3 = 0
      · go_wp2_with fail
        refine (store_any (w.heap.size + 1) 0 c ca W1 l1 p1 lf pf).mono ?_
        rintro e w' ⟨rfl, rfl⟩
        clear o0 o1 o2 l1 p1 lf pf
        go_wp2_with fail
        go_roundw
        case rel => exact ⟨k + 1, ca, by omega, by go_num, rfl, hI1.store ca ia, hB1.setCell (by simp) _⟩
        case measure => simp [intOf]; omega
      · by_cases h1 : x0 % 3 = 1
        · go_wp2_with fail
          refine (swap_any (w.heap.size + 1) 0 c ca W1 l1 p1 lf pf).mono ?_
          rintro e w' ⟨rfl, rfl⟩
          clear o0 o1 o2 l1 p1 lf pf
          go_wp2_with fail
          go_roundw
          case rel => exact ⟨k + 1, ca, by omega, by go_num, rfl, hI1.store ca ia, hB1.setCell (by simp) _⟩
          case measure => simp [intOf]; omega
        · by_cases hca : decide (c = ca) = true
          · have e2 := eqlI c ca (inSlab_block hI.ins ia)
            rw [hca] at e2
            go_wp2_with fail
            refine (cas_hit (w.heap.size + 1) 0 c ca cb W1 l1 p1 lf pf (inSlab_block hI.ins ia) hca).mono ?_
            rintro e w' ⟨rfl, rfl⟩
            clear o0 o1 o2 l1 p1 lf pf hca
            go_wp2_with fail
            go_roundw
            case rel => exact ⟨k + 1, cb, by omega, by go_num, rfl, hI1.store cb ib, hB1.setCell (by simp) _⟩
            case measure => simp [intOf]; omega
          · have hca' : decide (c = ca) = false := by simpa using hca
            clear hca
            have e2 := eqlI c ca (inSlab_block hI.ins ia)
            rw [hca'] at e2
            go_wp2_with fail
            refine (cas_miss (w.heap.size + 1) 0 c ca cb W1 l1 p1 lf (inSlab_block hI.ins ia) hca').mono ?_
            rintro e w' ⟨rfl, rfl⟩
            clear o0 o1 o2 l1 p1 lf pf hca'
            go_wp2_with fail
            go_roundw
            case rel => exact ⟨k + 1, c, by omega, by go_num, rfl, hI1, hB1⟩
            case measure => simp [intOf]; omega
    · have e1 := neqI c c (inSlab_block hI.ins hI.ins)
      simp only [decide_true, Bool.not_true] at e1
      have l1 := hI.lock
      have p1 := hI.p
      have lf := hI.f0
      have pf := hI.f2
      clear ha
      go_wp2_with fail
      refine (loadI_any (w.heap.size + 1) 0 (.pointer c) wr l1 p1 lf).mono ?_
      rintro e w' ⟨rfl, rfl⟩
      go_wp2_with fail
      refine (trylock_free ⟨w.heap.size + 1, 0, none⟩ wr l1 lf).mono ?_
      rintro e w' ⟨rfl, rfl⟩
      go_wp2_with fail
      refine (unlock_back ⟨w.heap.size + 1, 0, none⟩ wr l1 lf).mono ?_
      rintro e w' ⟨rfl, rfl⟩
      rcases hI.ins with rfl | ⟨j, hj, rfl⟩
      · go_wp2
        go_ret
        exact ⟨rfl, hB⟩
      · have cj := hI.slab j hj
        clear e1
        go_wp2
        go_loop [16] (fun i => ∃ m : Nat, m ≤ 4 ∧ i = .int .i64 m) (fun i => 4 - (intOf i).toNat)
        case atStart => exact ⟨0, by omega, rfl⟩
        case round =>
          obtain ⟨m, hm, rfl⟩ := hrel
          by_cases hm4 : m < 4
          · by_cases hmj : m = j
            · subst hmj
              have e3 := eqlI (some ⟨w.heap.size, m, none⟩) (some ⟨w.heap.size, m, none⟩) (fun a b ha hb => by cases ha; cases hb; rfl)
              simp only [decide_true] at e3
              have hne : ((10 + (m : Int)) != 10 + (m : Int)) = false := by simp
              go_wp2
              go_round
              case rel => exact ⟨m + 1, by omega, by go_num⟩
              case measure => simp [intOf]; omega
            · have e3 := eqlI (some ⟨w.heap.size, j, none⟩) (some ⟨w.heap.size, m, none⟩) (fun a b ha hb => by cases ha; cases hb; rfl)
              have hd : decide ((some ⟨w.heap.size, j, none⟩ : Option Addr) = some ⟨w.heap.size, m, none⟩) = false := by simp
              rw [hd] at e3
              clear hd
              go_wp2
              go_round
              case rel => exact ⟨m + 1, by omega, by go_num⟩
              case measure => simp [intOf]; omega
          · go_wp2
            go_ret
            exact ⟨rfl, hB⟩
end Go.Proofs.Ybulkcfna.lawS4082AScript
