/-
  package time's leaves, at a time that bears no monotonic reading: nsec (14), sec (28), addSec (15), Add (6), IsZero (25), Equal (27).
-/
import Derived.Test.YbulkcfnoFmtRows
import Derived.WalkKit
import Derived.WalkSpells
import Derived.Laws.BitsAllLaws
namespace Go.Proofs.YbulkcfnoFmt
open Go Go.RowKit

theorem and_mono (n : Int) (h0 : 0 ≤ n) (h1 : n < 1000000000) : bits .and .u64 n 9223372036854775808 = 0 := by
  rw [u64_and n 9223372036854775808 h0 (by omega) (by omega) (by omega)]
  have : n.toNat &&& (9223372036854775808 : Int).toNat = 0 := by
    rw [show (9223372036854775808 : Int).toNat = 2 ^ 63 by rfl]
    apply Nat.eq_of_testBit_eq
    intro i
    rw [Nat.testBit_and, Nat.testBit_two_pow]
    by_cases hi : 63 = i
    · subst hi
      rw [Nat.testBit_lt_two_pow (by omega)]
      simp
    · simp [hi]
  rw [this]
  rfl

theorem and_nsec (n : Int) (h0 : 0 ≤ n) (h1 : n < 1000000000) : bits .and .u64 n 1073741823 = n := by
  rw [u64_and n 1073741823 h0 (by omega) (by omega) (by omega)]
  have : n.toNat &&& (1073741823 : Int).toNat = n.toNat := by
    rw [show (1073741823 : Int).toNat = 2 ^ 30 - 1 by rfl, Nat.and_two_pow_sub_one_eq_mod, Nat.mod_eq_of_lt (by omega)]
  rw [this]
  omega

theorem andNot_zero : bits .andNot .u64 0 1073741823 = 0 := by
  rw [u64_andNot 0 1073741823 (by omega) (by omega) (by omega) (by omega)]
  simp

theorem or_zero (n : Int) (h0 : 0 ≤ n) (h1 : n < 1000000000) : bits .or .u64 0 n = n := by
  rw [u64_or 0 n (by omega) (by omega) h0 (by omega)]
  simp
  omega

set_option maxHeartbeats 400000 in
theorem nsec_any (b : Nat) (n : Int) (w : World) (h0 : 0 ≤ n) (h1 : n < 1000000000) (hc : w.cell? ⟨b, 0, none⟩ = some (.int .u64 n)) :
    Calls Ybaf.prog 14 #[.pointer (some ⟨b, 0, none⟩)] w fun e w' => e = .returned (.int .i32 n) ∧ w = w' := by
  have hm := and_nsec n h0 h1
  go_enter Ybaf.func14, Ybaf.ntmps14
  go_wp2
  go_ret
  exact ⟨rfl, rfl⟩

set_option maxHeartbeats 400000 in
theorem sec_any (b : Nat) (n s : Int) (w : World) (h0 : 0 ≤ n) (h1 : n < 1000000000) (hc : w.cell? ⟨b, 0, none⟩ = some (.int .u64 n)) (hs : w.cell? ⟨b, 1, none⟩ = some (.int .i64 s)) :
    Calls Ybaf.prog 28 #[.pointer (some ⟨b, 0, none⟩)] w fun e w' => e = .returned (.int .i64 s) ∧ w = w' := by
  have hm := and_mono n h0 h1
  go_enter Ybaf.func28, Ybaf.ntmps28
  go_wp2
  go_ret
  exact ⟨rfl, rfl⟩

set_option maxHeartbeats 400000 in
/-- addSec at second 0: the seconds are d. -/
theorem addSec_zero (b : Nat) (n d : Int) (w : World) (h0 : 0 ≤ n) (h1 : n < 1000000000) (hd0 : -9300000000 ≤ d) (hd1 : d ≤ 9300000000) (hc : w.cell? ⟨b, 0, none⟩ = some (.int .u64 n)) (hs : w.cell? ⟨b, 1, none⟩ = some (.int .i64 0)) (hz : w.frozen? ⟨b, 1, none⟩ = false) :
    Calls Ybaf.prog 15 #[.pointer (some ⟨b, 0, none⟩), .int .i64 d] w fun e w' => e = .returned (.tuple #[]) ∧ w.setCell ⟨b, 1, none⟩ (.int .i64 d) = w' := by
  have hm := and_mono n h0 h1
  by_cases hp : 0 < d
  · go_enter Ybaf.func15, Ybaf.ntmps15
    go_wp2
    go_end0
    exact ⟨rfl, rfl⟩
  · go_enter Ybaf.func15, Ybaf.ntmps15
    go_wp2
    go_end0
    exact ⟨rfl, rfl⟩

/-- The nanosecond and the second of the zero time plus d. -/
def tNs (d : Int) : Int := if d.tmod 1000000000 < 0 then d.tmod 1000000000 + 1000000000 else d.tmod 1000000000
def tSec (d : Int) : Int := if d.tmod 1000000000 < 0 then d.tdiv 1000000000 - 1 else d.tdiv 1000000000

theorem tmod_bd (d : Int) : -1000000000 < d.tmod 1000000000 ∧ d.tmod 1000000000 < 1000000000 :=
  ⟨Int.lt_tmod_of_pos d (by omega), Int.tmod_lt_of_pos d (by omega)⟩

theorem tNs_bd (d : Int) : 0 ≤ tNs d ∧ tNs d < 1000000000 := by
  have := tmod_bd d
  unfold tNs
  split <;> omega

theorem tdiv_bd (d : Int) (hd0 : -9223372036854775808 ≤ d) (hd1 : d ≤ 9223372036854775807) : -9299999999 ≤ d.tdiv 1000000000 ∧ d.tdiv 1000000000 ≤ 9299999999 := by
  have h := tmod_bd d
  have e := Int.mul_tdiv_add_tmod d 1000000000
  omega

set_option maxHeartbeats 1000000 in
/-- (time.Time).Add at the zero time. -/
theorem add_zero (d : Int) (w : World) (hd0 : -9223372036854775808 ≤ d) (hd1 : d ≤ 9223372036854775807) :
    Calls Ybaf.prog 6 #[.agg #[.int .u64 0, .int .i64 0, .pointer none], .int .i64 d] w fun e w' => e = .returned (.agg #[.int .u64 (tNs d), .int .i64 (tSec d), .pointer none]) ∧ Below w.heap.size w w' := by
  obtain ⟨r1, r2⟩ := tmod_bd d
  obtain ⟨q1, q2⟩ := tdiv_bd d hd0 hd1
  have hn : tNs d = if d.tmod 1000000000 < 0 then d.tmod 1000000000 + 1000000000 else d.tmod 1000000000 := rfl
  have hs : tSec d = if d.tmod 1000000000 < 0 then d.tdiv 1000000000 - 1 else d.tdiv 1000000000 := rfl
  generalize hq : d.tdiv 1000000000 = q at *
  generalize hr : d.tmod 1000000000 = r at *
  have an := andNot_zero
  by_cases hneg : r < 0
  · have Hn : Hid (tNs d = r + 1000000000) := by rw [hn, if_pos hneg]; rfl
    have Hs : Hid (tSec d = q - 1) := by rw [hs, if_pos hneg]; rfl
    have ho := or_zero (r + 1000000000) (by omega) (by omega)
    have hm := and_mono (r + 1000000000) (by omega) (by omega)
    clear hn hs hd0 hd1
    go_enter Ybaf.func6, Ybaf.ntmps6
    go_wp2_with fail
    refine (nsec_any w.heap.size 0 _ (by omega) (by omega) (by simp)).mono ?_
    rintro e w' ⟨rfl, rfl⟩
    go_wp2_with fail
    refine (addSec_zero w.heap.size (r + 1000000000) (q - 1) _ (by omega) (by omega) (by omega) (by omega) (by simp [go_sem]) (by simp [go_sem]) (by simp [go_sem])).mono ?_
    rintro e w' ⟨rfl, rfl⟩
    go_wp2_with fail
    refine bodyPost_ret (v := .agg #[.int .u64 (r + 1000000000), .int .i64 (q - 1), .pointer none]) (by simp [results, Ybaf.results6, go_sem]) rfl ⟨by rw [Hn.out, Hs.out], ?_⟩
    exact ((Below.refl _ _).alloc (Nat.le_refl _) _).alloc (by simp) _
  · have Hn : Hid (tNs d = r) := by rw [hn, if_neg hneg]; rfl
    have Hs : Hid (tSec d = q) := by rw [hs, if_neg hneg]; rfl
    have ho := or_zero r (by omega) (by omega)
    have hm := and_mono r (by omega) (by omega)
    clear hn hs hd0 hd1
    go_enter Ybaf.func6, Ybaf.ntmps6
    go_wp2_with fail
    refine (nsec_any w.heap.size 0 _ (by omega) (by omega) (by simp)).mono ?_
    rintro e w' ⟨rfl, rfl⟩
    go_wp2_with fail
    refine (addSec_zero w.heap.size r q _ (by omega) (by omega) (by omega) (by omega) (by simp [go_sem]) (by simp [go_sem]) (by simp [go_sem])).mono ?_
    rintro e w' ⟨rfl, rfl⟩
    go_wp2_with fail
    refine bodyPost_ret (v := .agg #[.int .u64 r, .int .i64 q, .pointer none]) (by simp [results, Ybaf.results6, go_sem]) rfl ⟨by rw [Hn.out, Hs.out], ?_⟩
    exact ((Below.refl _ _).alloc (Nat.le_refl _) _).alloc (by simp) _

set_option maxHeartbeats 400000 in
/-- (time.Time).IsZero at the zero time. -/
theorem isZero_zero (w : World) : Calls Ybaf.prog 25 #[.agg #[.int .u64 0, .int .i64 0, .pointer none]] w fun e w' => e = .returned (.bool true) ∧ Below w.heap.size w w' := by
  go_enter Ybaf.func25, Ybaf.ntmps25
  go_wp2
  go_ret
  exact ⟨rfl, (Below.refl _ _).alloc (Nat.le_refl _) _⟩

set_option maxHeartbeats 1000000 in
/-- (time.Time).Equal of a time with itself. -/
theorem equal_same (n s : Int) (h0 : 0 ≤ n) (h1 : n < 1000000000) (w : World) :
    Calls Ybaf.prog 27 #[.agg #[.int .u64 n, .int .i64 s, .pointer none], .agg #[.int .u64 n, .int .i64 s, .pointer none]] w fun e w' => e = .returned (.bool true) ∧ Below w.heap.size w w' := by
  have hnn : bits .and .u64 n n = n := by
    rw [u64_and n n h0 (by omega) h0 (by omega), Nat.and_self]
    omega
  have hm := and_mono n h0 h1
  go_enter Ybaf.func27, Ybaf.ntmps27
  go_wp2_with fail
  refine (sec_any w.heap.size n s _ h0 h1 (by simp [go_sem]) (by simp [go_sem])).mono ?_
  rintro e w' ⟨rfl, rfl⟩
  go_wp2_with fail
  refine (sec_any (w.heap.size + 1) n s _ h0 h1 (by simp [go_sem]) (by simp [go_sem])).mono ?_
  rintro e w' ⟨rfl, rfl⟩
  go_wp2_with fail
  refine (nsec_any w.heap.size n _ h0 h1 (by simp [go_sem])).mono ?_
  rintro e w' ⟨rfl, rfl⟩
  go_wp2_with fail
  refine (nsec_any (w.heap.size + 1) n _ h0 h1 (by simp [go_sem])).mono ?_
  rintro e w' ⟨rfl, rfl⟩
  go_wp2_with fail
  go_ret
  exact ⟨rfl, ((Below.refl _ _).alloc (Nat.le_refl _) _).alloc (by simp) _⟩
end Go.Proofs.YbulkcfnoFmt
