/-
  The law's arguments, opened: a slice of schedules.
-/
import Derived.Test.YbulkcfnoFmtLaw
import Derived.Deep.Slices
import Derived.Deep.Strs
import Derived.OpenShut
namespace Go.Proofs.YbulkcfnoFmt
open Go Go.RowKit Go.ChangeShapes Go.WideShapes

theorem cells55 : Ybaf.prog.cellsOf 55 = 6 := by kernel_rfl
theorem cells9 : Ybaf.prog.cellsOf 9 = 1 := by kernel_rfl
theorem cells46 : Ybaf.prog.cellsOf 46 = 1 := by kernel_rfl
theorem cells2 : Ybaf.prog.cellsOf 2 = 1 := by kernel_rfl

theorem bounds_i64 {x : Int} (h : (Lit.int .i64 x).wf = true) : -9223372036854775808 ≤ x ∧ x ≤ 9223372036854775807 := by
  have h1 : IntKind.i64.min = -9223372036854775808 := rfl
  have h2 : IntKind.i64.max = 9223372036854775807 := rfl
  simp only [Lit.wf, Bool.and_eq_true, decide_eq_true_eq] at h
  omega

theorem cell_lt {W : World} {b o : Nat} {v : Value} (h : W.cell? ⟨b, o, none⟩ = some v) : b < W.heap.size := World.block_lt_of_cell? W ⟨b, o, none⟩ h

theorem plain_addr {W : World} {a : Addr} {v : Value} (h : W.cell? a = some v) : ∃ b o, a = ⟨b, o, none⟩ := by
  obtain ⟨b, o, s⟩ := a
  obtain rfl : s = none := by simpa using World.cell?_spot h
  exact ⟨b, o, rfl⟩

/-- A command, opened. -/
theorem open_cmd {H : Type} {enc : TypeId × Value → H} {W : World} {spare : Nat → Bool} {held : Bool} {fuel : Nat} {v : Value} {x : DataW H × List MemPlace}
    (h : DataW.trod enc Ybaf.prog W 0 spare held fuel 46 [v] = some x) :
    ∃ A n cap, v = .slice A n cap ∧ n ≤ maxLen ∧ StrArg W A n ∧ ∀ b o, A = some ⟨b, o, none⟩ → 0 < n → b < W.heap.size := by
  rcases Deep.open_strs Ybaf.underlying46 Ybaf.underlying9 cells9 h with ⟨hcs, _⟩ | ⟨a, len, cap, m, Sx, hcs, _, hl, hc, hm, _, hx⟩
  · simp at hcs
    subst hcs
    exact ⟨none, 0, 0, rfl, Nat.zero_le _, fun i hi => absurd hi (Nat.not_lt_zero _), fun b o e => by cases e⟩
  · simp at hcs
    subst hcs
    have hlm : len ≤ m := by rw [hm]; split <;> omega
    have hA : StrArg W (some a) len := fun i hi => by
      have h0 := (hx 0 (by omega)).1
      rw [show a.add 0 = a by cases a; simp [Addr.add]] at h0
      obtain ⟨b, o, rfl⟩ := plain_addr h0
      have hi' := (hx i (by omega)).1
      rw [add_plain] at hi'
      exact ⟨b, o, _, rfl, hi'⟩
    refine ⟨some a, len, cap, rfl, by omega, hA, fun b o e hn => ?_⟩
    obtain ⟨b', o', s, e', hc'⟩ := hA 0 hn
    rw [e] at e'
    cases e'
    exact cell_lt hc'

set_option maxRecDepth 100000 in
theorem open_scheds {H : Type} {enc : TypeId × Value → H} {W : World} {spare : Nat → Bool} {held : Bool} {fuel : Nat} {a : Option Addr} {len cap : Nat} {x : DataW H × List MemPlace}
    (h : DataW.trod enc Ybaf.prog W 0 spare held fuel 22 [.slice a len cap] = some x) : len ≤ maxLen ∧ ∃ S, Scheds W a len S := by
  rcases Deep.open_slice Ybaf.underlying22 h with ⟨hcs, _⟩ | ⟨a', len', cap', m, n, D, Pl, hcs, _, hl, hmx, hm, _, hx⟩
  · simp at hcs
    obtain ⟨rfl, rfl, rfl⟩ := hcs
    exact ⟨Nat.zero_le _, fun _ => ⟨⟨#[]⟩, ⟨#[]⟩, ⟨#[]⟩, none, 0, 0, 0, 0⟩, ⟨fun j hj => absurd hj (Nat.not_lt_zero _), fun j hj => absurd hj (Nat.not_lt_zero _), fun j hj => absurd hj (Nat.not_lt_zero _)⟩⟩
  · simp at hcs
    obtain ⟨rfl, rfl, rfl⟩ := hcs
    refine ⟨by omega, ?_⟩
    have hlm : len ≤ m := by rw [hm]; split <;> omega
    have key : ∀ i, i < len → ∃ s : Sch, s.Ok W ∧ s.id.size ≤ maxLen ∧ ∃ b o, some a' = some (⟨b, o, none⟩ : Addr) ∧ b < W.heap.size ∧ ∀ k, k < 6 → W.cell? ⟨b, o + i * 6 + k, none⟩ = s.cells[k]? := by
      intro i hi
      obtain ⟨cs', h1, h2⟩ := hx i (by omega)
      rw [cells55] at h1
      obtain ⟨_, hlen, hc⟩ := World.cells?_some h1
      obtain ⟨xs, n', _, _, _, hxl, hf⟩ := DataW.trod_struct Ybaf.underlying55 h2
      match cs', hlen with
      | [v0, v1, v2, v3, v4, v5], _ =>
        have f0 := hf 0 _ rfl
        have f1 := hf 1 _ rfl
        have f2 := hf 2 _ rfl
        have f3 := hf 3 _ rfl
        have f4 := hf 4 _ rfl
        have f5 := hf 5 _ rfl
        simp [cells9, cells46, cells2] at f0 f1 f2 f3 f4 f5
        match xs, hxl with
        | [x0, x1, x2, x3, x4, x5], _ =>
          simp at f0 f1 f2 f3 f4 f5
          obtain ⟨s0, e0, _, w0⟩ := DataW.trod_string Ybaf.underlying9 f0
          obtain ⟨s1, e1, _, w1⟩ := DataW.trod_string Ybaf.underlying9 f1
          obtain ⟨s2, e2, _, w2⟩ := DataW.trod_string Ybaf.underlying9 f2
          obtain ⟨A, nc, cc, e3, hnc, hcm, hcl⟩ := open_cmd f3
          obtain ⟨n4, e4, _, w4⟩ := DataW.trod_int Ybaf.underlying2 f4
          obtain ⟨n5, e5, _, w5⟩ := DataW.trod_int Ybaf.underlying2 f5
          simp at e0 e1 e2 e4 e5
          subst e0 e1 e2 e3 e4 e5
          have c0 := hc 0 (by omega)
          have c1 := hc 1 (by omega)
          have c2 := hc 2 (by omega)
          have c3 := hc 3 (by omega)
          have c4 := hc 4 (by omega)
          have c5 := hc 5 (by omega)
          rw [Deep.add_add] at c0 c1 c2 c3 c4 c5
          simp at c0 c1 c2 c3 c4 c5
          obtain ⟨b, o, spot⟩ := a'
          have hspot : spot = none := by
            obtain ⟨cs0, g1, _⟩ := hx 0 (by omega)
            rw [cells55] at g1
            obtain ⟨_, hlen0, hc0⟩ := World.cells?_some g1
            have := hc0 0 (by omega)
            rw [Deep.add_add] at this
            match cs0, hlen0 with
            | [u0, u1, u2, u3, u4, u5], _ =>
              simp [Addr.add] at this
              simpa using World.cell?_spot this
          subst hspot
          rw [add_plain] at c0 c1 c2 c3 c4 c5
          refine ⟨⟨s0, s1, s2, A, nc, cc, n4, n5⟩, ⟨(bounds_i64 w4).1, (bounds_i64 w4).2, (bounds_i64 w5).1, (bounds_i64 w5).2, hnc, hcm, hcl⟩, w0, b, o, rfl, cell_lt c0, fun k hk => ?_⟩
          match k, hk with
          | 0, _ => simpa [Sch.cells] using c0
          | 1, _ => simpa [Sch.cells, Nat.add_assoc] using c1
          | 2, _ => simpa [Sch.cells, Nat.add_assoc] using c2
          | 3, _ => simpa [Sch.cells, Nat.add_assoc] using c3
          | 4, _ => simpa [Sch.cells, Nat.add_assoc] using c4
          | 5, _ => simpa [Sch.cells, Nat.add_assoc] using c5
    have hinh : Inhabited Sch := ⟨⟨⟨#[]⟩, ⟨#[]⟩, ⟨#[]⟩, none, 0, 0, 0, 0⟩⟩
    obtain ⟨S, hS⟩ := Deep.choose_lt key
    exact ⟨S, ⟨fun j hj => (hS j hj).1, fun j hj => (hS j hj).2.1, fun j hj => (hS j hj).2.2⟩⟩

/-- More than 1024 schedules: true at once. -/
theorem law_long (A : Option Addr) (n cap : Nat) (query : ByteArray) (pick : Int) (fl : Bool) (w : World) (hl : 1024 < n) (hm : n ≤ maxLen) :
    Calls Ybaf.prog 3 #[.slice A n cap, .string query, .int .u16 pick, .bool fl] w fun e w' => e = .returned (.bool true) ∧ Below w.heap.size w w' := by
  unfold maxLen at hm
  go_enter Ybaf.func3, Ybaf.ntmps3
  go_wp2_with fail
  go_ret
  exact ⟨rfl, (Below.refl _ _).alloc (Nat.le_refl _) _⟩
end Go.Proofs.YbulkcfnoFmt
