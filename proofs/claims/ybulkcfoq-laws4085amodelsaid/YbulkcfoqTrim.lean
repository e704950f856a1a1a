import Derived.Test.YbulkcfoqEnds
namespace Go.Proofs.Ybulkcfoq
open Go.RowKit Go.Shelf Go.Lib

/-- The place where a line's ending, LF or CRLF, begins. -/
def lineEnd (xs : List Int) : Nat := if cutAt xs 10 = xs.length then xs.length else cutAt (xs.take (cutAt xs 10)) 13

theorem cutAt_eq_iff (xs : List Int) (y : Int) : cutAt xs y = xs.length ↔ ¬ (0 < xs.length ∧ xs.getD (xs.length - 1) 0 = y) := by
  unfold cutAt; split <;> rename_i h
  · constructor
    · intro e; omega
    · intro e; exact absurd h e
  · exact ⟨fun _ => h, fun _ => rfl⟩

theorem hasSuffix_cut (xs : List Int) (y : Int) (hb : ∀ x ∈ xs, 0 ≤ x ∧ x < 256) (hy : 0 ≤ y ∧ y < 256) :
    Lib.hasSuffix (Lib.bytesOf xs) (Lib.bytesOf [y]) = !decide (cutAt xs y = xs.length) := by
  rw [ends_one xs y hb hy, ← decide_not]
  exact decide_eq_decide.2 (by rw [cutAt_eq_iff, Classical.not_not])

set_option maxHeartbeats 2000000 in
theorem trim_any (p : Option Addr) (n c : Nat) (xs : List Int) (w : World) (hx : xs.length = n) (hnc : n ≤ c) (hbig : n ≤ 4096) (h : Lib.BytesIn w p n xs) (hb : ∀ x ∈ xs, 0 ≤ x ∧ x < 256) :
    Calls Yba.prog 6 #[.slice p n c] w fun e w' => e = .returned (.slice p (lineEnd xs) c) ∧ Below w.heap.size w w' := by
  have kc := fun (w : World) (C : Array Value) (n c : Nat) => Lib.run_convert_bytes_const (P := Yba.prog) w 22 5 C n c Yba.underlying22 Yba.underlying5
  have lit : ∀ (W : World) (y : Int), Lib.BytesIn (W.alloc (.cells #[.int .u8 y] 5 (1, 2))) (some ⟨W.heap.size, 0, none⟩) 1 [y] := fun W y _ => ⟨_, 0, rfl, fun i hi => by
    obtain rfl : i = 0 := by omega
    rw [World.cell?_alloc_mark]; rfl⟩
  have bel : Below w.heap.size w (w.alloc (.cells #[.int .u8 10] 5 (1, 2))) := (Below.refl _ w).alloc (Nat.le_refl _) _
  have h1 := BytesIn_below h bel
  have hcon := Any.bytes_CutSuffix_all lays142 p _ n c 1 1 xs [10] _ hx rfl hnc (by omega) h1 (lit w 10)
  rw [trimV_one hx h1 hb (by omega), hasSuffix_cut xs 10 hb (by omega)] at hcon
  have hle : cutAt xs 10 ≤ n := hx ▸ cutAt_le xs 10
  have hb2 : ∀ x ∈ xs.take (cutAt xs 10), 0 ≤ x ∧ x < 256 := fun x hx => hb x (List.mem_of_mem_take hx)
  have hlen2 : (xs.take (cutAt xs 10)).length = cutAt xs 10 := by rw [List.length_take]; omega
  have hcon2 : ∀ W, Below w.heap.size w W → Calls Yba.prog 9 #[.slice p (cutAt xs 10) c, .slice (some ⟨W.heap.size, 0, none⟩) 1 1] (W.alloc (.cells #[.int .u8 13] 5 (1, 2))) fun e w' =>
      e = .returned (.slice p (cutAt (xs.take (cutAt xs 10)) 13) c) ∧ w' = W.alloc (.cells #[.int .u8 13] 5 (1, 2)) := fun W hW => by
    have h2 := BytesIn_below (BytesIn_take h hle) (hW.alloc hW.size (.cells #[.int .u8 13] 5 (1, 2)))
    have hc := Any.bytes_TrimSuffix_all lays140 p (some ⟨W.heap.size, 0, none⟩) (cutAt xs 10) c 1 1 (xs.take (cutAt xs 10)) [13] _ hlen2 rfl (by omega) (by omega) h2 (lit W 13)
    rw [trimV_one hlen2 h2 hb2 (by omega)] at hc
    exact hc
  clear h h1 lit
  have hd : decide (cutAt xs 10 = xs.length) = true ∨ decide (cutAt xs 10 = xs.length) = false := by cases decide (cutAt xs 10 = xs.length) <;> simp
  rcases hd with hd | hd
  · rw [hd] at hcon
    have hl : lineEnd xs = n := by unfold lineEnd; rw [if_pos (of_decide_eq_true hd)]; exact hx
    have hcut : cutAt xs 10 = n := (of_decide_eq_true hd).trans hx
    rw [hl]
    rw [hcut] at hcon
    go_enter Yba.func6, Yba.ntmps6
    go_wp2_with (go_at_call 8; refine hcon.mono ?_; rintro e w' ⟨rfl, rfl⟩)
    go_ret
    exact ⟨rfl, bel⟩
  · rw [hd] at hcon
    have hl : lineEnd xs = cutAt (xs.take (cutAt xs 10)) 13 := by unfold lineEnd; rw [if_neg (of_decide_eq_false hd)]
    rw [hl]
    generalize cutAt (xs.take (cutAt xs 10)) 13 = k2 at hcon2 ⊢
    generalize cutAt xs 10 = k1 at hcon hcon2 ⊢
    clear hl
    go_enter Yba.func6, Yba.ntmps6
    go_wp2_with (first | (go_at_call 8; refine hcon.mono ?_; rintro e w1 ⟨rfl, hw1⟩; have b1 : Below w.heap.size w w1 := hw1 ▸ bel; clear hw1) | (go_at_call 9; refine (hcon2 _ b1).mono ?_; rintro e w' ⟨rfl, rfl⟩))
    go_ret
    exact ⟨rfl, b1.alloc b1.size _⟩

/-- The law's own reckoning of that place. -/
theorem cutAt_of (xs : List Int) (y : Int) (k : Nat) (hk : xs.length = k) : cutAt xs y = if 0 < k ∧ xs.getD (k - 1) 0 = y then k - 1 else k := by
  unfold cutAt; rw [hk]

set_option maxHeartbeats 2000000 in
theorem end_any (p : Option Addr) (n c : Nat) (xs : List Int) (w : World) (hx : xs.length = n) (hbig : n ≤ 4096) (h : Lib.BytesIn w p n xs) :
    Calls Yba.prog 5 #[.slice p n c] w fun e w' => e = .returned (.int .i64 (lineEnd xs)) ∧ w' = w := by
  rcases Nat.eq_zero_or_pos n with hn | hn
  · subst hn
    have hl : lineEnd xs = 0 := by unfold lineEnd; rw [if_pos ((cutAt_eq_iff _ _).2 (by omega))]; exact hx
    rw [hl]
    clear h
    go_enter Yba.func5, Yba.ntmps5
    go_wp2
    go_ret
    exact ⟨rfl, rfl⟩
  · obtain ⟨b, o, rfl, hc⟩ := h.at hn
    obtain ⟨m, rfl⟩ : ∃ m, n = m + 1 := ⟨n - 1, by omega⟩
    have g1 := hc m (by omega)
    have e1 : cutAt xs 10 = if xs.getD m 0 = 10 then m else m + 1 := by
      rw [cutAt_of xs 10 (m + 1) hx]; simp
    have wr1 : IntKind.i64.wrap (((m + 1 : Nat) : Int) - 1) = (m : Int) := by
      rw [show (((m + 1 : Nat) : Int) - 1) = (m : Int) by omega]; rw [IntKind.wrap_i64]; omega
    by_cases hz : xs.getD m 0 = 10
    · rw [if_pos hz] at e1
      have hl : lineEnd xs = cutAt (xs.take m) 13 := by unfold lineEnd; rw [e1, if_neg (by omega)]
      have hlm : (xs.take m).length = m := by rw [List.length_take]; omega
      rw [hz] at g1
      rcases Nat.eq_zero_or_pos m with h0 | h0
      · subst h0
        have hl' : lineEnd xs = 0 := by rw [hl, cutAt_of _ 13 0 hlm]; simp
        rw [hl']
        have g1' : w.cell? ⟨b, o, none⟩ = some (.int .u8 10) := g1
        clear hc h g1
        go_enter Yba.func5, Yba.ntmps5
        go_wp2
        go_ret
        exact ⟨rfl, rfl⟩
      · obtain ⟨j, rfl⟩ : ∃ j, m = j + 1 := ⟨m - 1, by omega⟩
        have g2 := hc j (by omega)
        have e2 : (xs.take (j + 1)).getD j 0 = xs.getD j 0 := by simp [List.getD]
        rw [cutAt_of _ 13 (j + 1) hlm] at hl
        simp only [Nat.zero_lt_succ, Nat.add_sub_cancel, true_and, e2] at hl
        clear hc h
        by_cases hy : xs.getD j 0 = 13
        · rw [if_pos hy] at hl
          rw [hl]
          rw [hy] at g2
          go_enter Yba.func5, Yba.ntmps5
          go_wp2
          go_ret
          exact ⟨rfl, rfl⟩
        · rw [if_neg hy] at hl
          rw [hl]
          generalize xs.getD j 0 = y at g2 hy
          go_enter Yba.func5, Yba.ntmps5
          go_wp2
          go_ret
          exact ⟨rfl, rfl⟩
    · rw [if_neg hz] at e1
      have hl : lineEnd xs = m + 1 := by unfold lineEnd; rw [e1, if_pos (by omega)]; exact hx
      rw [hl]
      clear hc h
      generalize xs.getD m 0 = y at g1 hz
      go_enter Yba.func5, Yba.ntmps5
      go_wp2
      go_ret
      exact ⟨rfl, rfl⟩
end Go.Proofs.Ybulkcfoq
