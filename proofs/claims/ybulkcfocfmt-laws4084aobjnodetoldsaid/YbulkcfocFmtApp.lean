/-
  'append(full, path...)', the two slices of different named types over strings.
-/
import Derived.Test.YbulkcfocFmtObj
namespace Go.Proofs.YbulkcfocFmt
open Go Go.RowKit Go.Maps

theorem info9 : (Ybaf.prog.info? 9).map (fun i => (i.zero, i.size, i.bytes)) = some (some (.string ⟨#[]⟩), 1, 16) := by kernel_rfl

theorem app_types (ty : TypeId) (s x : Value) (w : World) : (Builtin.append_ #[40, 23] ty #[s, x]).run Ybaf.prog w = (Builtin.append_ #[40, 40] ty #[s, x]).run Ybaf.prog w := by
  cases s with
  | slice A n cap => simp [Builtin.append_, run_underlying Ybaf.underlying23, run_underlying Ybaf.underlying40]
  | _ => simp [Builtin.append_, run_underlying Ybaf.underlying40]

/-- At the operation. -/
theorem wpList_append_path {w : World} {ops : Array Oper} {rest : List Oper} {o : Oper} {a : Act} {Q : Exit → Act → World → Prop} (hgd : o.guard = none) (s x : Operand)
    (ho : o.op = .call { callee := .builtin .append, args := #[s, x], argTypes := #[40, 23] }) (base : Nat) (v : Value) (n : Nat) (xs : List Value) (hs : a.eval s = v) (hown : w.ownsRow base 9 1 v n xs)
    (ad : Addr) (m c : Nat) (news : List Value) (hx : a.eval x = .slice (some ad) m c) (hl : news.length = m * 1) (hnews : ∀ j u, news[j]? = some u → w.cell? (ad.add j) = some u) (h1 : ∀ u ∈ news, u.oneCell' = true)
    (h63 : n + m ≤ maxLen) (hbytes : (n + m) * 16 ≤ 140737488355328) (hbase : base ≤ w.heap.size)
    (h : ∀ v' w', w'.ownsRow base 9 1 v' (n + m) (xs ++ news) → w.grownBy w' v.ownBlock → wpList Ybaf.prog ops Q rest (a.put o.dst v') w') :
    wpList Ybaf.prog ops Q (o :: rest) a w := by
  obtain ⟨i, hi, z1, z2, z3⟩ := info_parts info9
  refine wpList_plain hgd fun K hK => ?_
  obtain ⟨v', w', hr, h2, h3, h4, h5⟩ := run_append_own_at (P := Ybaf.prog) w base 40 o.type 9 i (.string ⟨#[]⟩) 1 16 Ybaf.underlying40 hi z1 z2 z3 rfl (by decide) v n xs hown ad m c news hl hnews h1 h63 hbytes hbase
  rw [← app_types] at hr
  unfold Oper.wp execOp
  simp only [ho, resolve, invoke, builtin, Sem.run_bind, Sem.run_pure, Result.andThen_ok, List.map_toArray, List.map_cons, List.map_nil, hs, hx, hr]
  exact hK _ _ (h v' w' h2 h3)
end Go.Proofs.YbulkcfocFmt
