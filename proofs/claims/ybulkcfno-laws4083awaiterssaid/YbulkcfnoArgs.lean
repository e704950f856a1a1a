/-
  From the row's reading of a []uint8 to what the walk takes.
-/
import Derived.Test.YbulkcfnoBuild
import Derived.OpenShut
namespace Go.Proofs.Ybulkcfno
open Go Go.RowKit Go.WideShapes

theorem byteArg_of {w : World} {a : Option Addr} {len cap : Nat} {zs : List Int}
    (h : (a = none ∧ len = 0 ∧ cap = 0 ∧ zs = []) ∨ ∃ x, a = some x ∧ len ≤ cap ∧ cap ≤ maxLen ∧ zs.length = cap ∧ (∀ i, i < zs.length → w.cell? (x.add i) = some (.int .u8 (zs.getD i 0))) ∧ ∀ n ∈ zs, (Lit.int .u8 n).wf = true) :
    ByteArg w a len (fun i => zs.getD i 0) ∧ len ≤ maxLen := by
  rcases h with ⟨rfl, rfl, rfl, rfl⟩ | ⟨x, rfl, hl, hm, hz, hc, hw⟩
  · exact ⟨fun i hi => absurd hi (by omega), Nat.zero_le _⟩
  · refine ⟨fun i hi => ?_, by omega⟩
    obtain ⟨b, off, rfl, hcell⟩ := ints_at hc (by omega)
    have hci := hcell i (by omega)
    refine ⟨⟨b, off, rfl, ?_, hci⟩, ?_⟩
    · by_cases hb : b < w.heap.size
      · exact hb
      · exfalso
        unfold World.cell? at hci
        rw [Array.getElem?_eq_none (by simpa using Nat.le_of_not_lt hb)] at hci
        simp at hci
    · have hi' : i < zs.length := by omega
      have := bounds_u8 (hw zs[i] (List.getElem_mem hi'))
      simpa [List.getD, List.getElem?_eq_getElem hi'] using this
end Go.Proofs.Ybulkcfno
