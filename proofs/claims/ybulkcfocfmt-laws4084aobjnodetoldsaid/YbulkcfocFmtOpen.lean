/-
  The laws' arguments, opened: a slice of strings; a slice of definitions.
-/
import Derived.Test.YbulkcfocFmtLaw
import Derived.Deep.Slices
import Derived.Deep.Strs
import Derived.OpenShut
namespace Go.Proofs.YbulkcfocFmt
open Go Go.RowKit Go.ChangeShapes Go.WideShapes

theorem cells57 : Ybaf.prog.cellsOf 57 = 4 := by kernel_rfl
theorem cells9 : Ybaf.prog.cellsOf 9 = 1 := by kernel_rfl
theorem cells23 : Ybaf.prog.cellsOf 23 = 1 := by kernel_rfl
theorem cells3 : Ybaf.prog.cellsOf 3 = 1 := by kernel_rfl
theorem cells5 : Ybaf.prog.cellsOf 5 = 1 := by kernel_rfl

theorem bounds_u8 {x : Int} (h : (Lit.int .u8 x).wf = true) : 0 ≤ x ∧ x ≤ 255 := by
  have h1 : IntKind.u8.min = 0 := rfl
  have h2 : IntKind.u8.max = 255 := rfl
  simp only [Lit.wf, Bool.and_eq_true, decide_eq_true_eq] at h
  omega

theorem plain_addr {W : World} {a : Addr} {v : Value} (h : W.cell? a = some v) : ∃ b o, a = ⟨b, o, none⟩ := by
  obtain ⟨b, o, s⟩ := a
  obtain rfl : s = none := by simpa using World.cell?_spot h
  exact ⟨b, o, rfl⟩

theorem add_plain (b o i : Nat) : (⟨b, o, none⟩ : Addr).add i = ⟨b, o + i, none⟩ := by simp [Addr.add]

/-- A slice of strings, opened. -/
theorem open_path {H : Type} {enc : TypeId × Value → H} {W : World} {spare : Nat → Bool} {held : Bool} {fuel : Nat} {v : Value} {x : DataW H × List MemPlace}
    (h : DataW.trod enc Ybaf.prog W 0 spare held fuel 23 [v] = some x) :
    ∃ A n cap K, v = .slice A n cap ∧ n ≤ cap ∧ n ≤ maxLen ∧ StrIs W W.heap.size A n K := by
  rcases Deep.open_strs Ybaf.underlying23 Ybaf.underlying9 cells9 h with ⟨hcs, _⟩ | ⟨a, len, cap, m, Sx, hcs, _, hl, hc, hm, _, hx⟩
  · simp at hcs
    subst hcs
    exact ⟨none, 0, 0, fun _ => ⟨#[]⟩, rfl, Nat.le_refl _, Nat.zero_le _, fun i hi => absurd hi (Nat.not_lt_zero _)⟩
  · simp at hcs
    subst hcs
    have hlm : len ≤ m := by rw [hm]; split <;> omega
    refine ⟨some a, len, cap, Sx, rfl, hl, by omega, fun i hi => ?_⟩
    obtain ⟨h0, _⟩ := hx 0 (by omega)
    rw [show a.add 0 = a by cases a; simp [Addr.add]] at h0
    obtain ⟨b, o, rfl⟩ := plain_addr h0
    obtain ⟨hi', hs⟩ := hx i (by omega)
    rw [add_plain] at hi'
    exact ⟨⟨b, o, rfl, World.block_lt_of_cell? W ⟨b, o + i, none⟩ hi', hi'⟩, hs⟩

set_option maxRecDepth 100000 in
theorem open_defs {H : Type} {enc : TypeId × Value → H} {W : World} {spare : Nat → Bool} {held : Bool} {fuel : Nat} {a : Option Addr} {len cap : Nat} {x : DataW H × List MemPlace}
    (h : DataW.trod enc Ybaf.prog W 0 spare held fuel 22 [.slice a len cap] = some x) : len ≤ maxLen ∧ ∃ D, Dfs W W.heap.size a len D := by
  rcases Deep.open_slice Ybaf.underlying22 h with ⟨hcs, _⟩ | ⟨a', len', cap', m, n, Dd, Pl, hcs, _, hl, hmx, hm, _, hx⟩
  · simp at hcs
    obtain ⟨rfl, rfl, rfl⟩ := hcs
    exact ⟨Nat.zero_le _, fun _ => ⟨0, 0, none, 0, 0, fun _ => ⟨#[]⟩, none, 0, 0, fun _ => ⟨#[]⟩⟩, ⟨fun j hj => absurd hj (Nat.not_lt_zero _), fun j hj => absurd hj (Nat.not_lt_zero _)⟩⟩
  · simp at hcs
    obtain ⟨rfl, rfl, rfl⟩ := hcs
    refine ⟨by omega, ?_⟩
    have hlm : len ≤ m := by rw [hm]; split <;> omega
    have key : ∀ i, i < len → ∃ d : Df, d.Ok W W.heap.size ∧ ∃ b o, some a' = some (⟨b, o, none⟩ : Addr) ∧ b < W.heap.size ∧ ∀ k, k < 4 → W.cell? ⟨b, o + i * 4 + k, none⟩ = d.cells[k]? := by
      intro i hi
      obtain ⟨cs', h1, h2⟩ := hx i (by omega)
      rw [cells57] at h1
      obtain ⟨_, hlen, hc⟩ := World.cells?_some h1
      obtain ⟨xs, n', _, _, _, hxl, hf⟩ := DataW.trod_struct Ybaf.underlying57 h2
      match cs', hlen with
      | [v0, v1, v2, v3], _ =>
        have f0 := hf 0 _ rfl
        have f1 := hf 1 _ rfl
        have f2 := hf 2 _ rfl
        have f3 := hf 3 _ rfl
        simp [cells3, cells5, cells23] at f0 f1 f2 f3
        match xs, hxl with
        | [x0, x1, x2, x3], _ =>
          simp at f0 f1 f2 f3
          obtain ⟨n0, e0, _, w0⟩ := DataW.trod_int Ybaf.underlying3 f0
          obtain ⟨n1, e1, _, w1⟩ := DataW.trod_int Ybaf.underlying5 f1
          obtain ⟨A2, l2, c2', K2, e2, _, m2, s2⟩ := open_path f2
          obtain ⟨A3, l3, c3', K3, e3, _, m3, s3⟩ := open_path f3
          simp at e0 e1
          subst e0 e1 e2 e3
          have c0 := hc 0 (by omega)
          have c1 := hc 1 (by omega)
          have c2 := hc 2 (by omega)
          have c3 := hc 3 (by omega)
          rw [Deep.add_add] at c0 c1 c2 c3
          simp at c0 c1 c2 c3
          obtain ⟨b, o, spot⟩ := a'
          have hspot : spot = none := by
            obtain ⟨cs0, g1, _⟩ := hx 0 (by omega)
            rw [cells57] at g1
            obtain ⟨_, hlen0, hc0⟩ := World.cells?_some g1
            have := hc0 0 (by omega)
            rw [Deep.add_add] at this
            match cs0, hlen0 with
            | [u0, u1, u2, u3], _ =>
              simp [Addr.add] at this
              simpa using World.cell?_spot this
          subst hspot
          rw [add_plain] at c0 c1 c2 c3
          refine ⟨⟨n0, n1, A2, l2, c2', K2, A3, l3, c3', K3⟩, ⟨(bounds_u8 w1).1, (bounds_u8 w1).2, m2, m3, s2, s3⟩, b, o, rfl, World.block_lt_of_cell? W ⟨b, o + i * 4, none⟩ c0, fun k hk => ?_⟩
          match k, hk with
          | 0, _ => simpa [Df.cells] using c0
          | 1, _ => simpa [Df.cells, Nat.add_assoc] using c1
          | 2, _ => simpa [Df.cells, Nat.add_assoc] using c2
          | 3, _ => simpa [Df.cells, Nat.add_assoc] using c3
    have hinh : Inhabited Df := ⟨⟨0, 0, none, 0, 0, fun _ => ⟨#[]⟩, none, 0, 0, fun _ => ⟨#[]⟩⟩⟩
    obtain ⟨D, hD⟩ := Deep.choose_lt key
    exact ⟨D, ⟨fun j hj => (hD j hj).1, fun j hj => (hD j hj).2⟩⟩
end Go.Proofs.YbulkcfocFmt
