/-
  zzs4084aval (15), newResolver (6), resolve (12) of a literal, lookupResolved (13), zzs4084acheck (10).
-/
import Derived.Test.YbulkcfocFmtPlain
import Derived.Stop.Asserts
import Derived.Laws.StructEq
import Derived.Stop.IfaceNil
namespace Go.Proofs.YbulkcfocFmt
open Go Go.RowKit Go.Maps

theorem as_lit (v : Value) (w : World) : (Instr.typeAssert (.iface 71 v) 53 71 true).run Ybaf.prog w = .ok (.tuple #[v, .bool true]) w := by kernel_rfl
theorem as_lit_no (v : Value) (w : World) : (Instr.typeAssert (.iface 71 v) 53 45 true).run Ybaf.prog w = .ok (.tuple #[.pointer none, .bool false]) w := by kernel_rfl
theorem as_node (v : Value) (w : World) : (Instr.typeAssert (.iface 45 v) 53 45 true).run Ybaf.prog w = .ok (.tuple #[v, .bool true]) w := by kernel_rfl
theorem as_str (v : Value) (w : World) : (Instr.typeAssert (.iface 76 v) 32 67 true).run Ybaf.prog w = .ok (.tuple #[.map none, .bool false]) w := by kernel_rfl
theorem as_obj (v : Value) (w : World) : (Instr.typeAssert (.iface 67 v) 32 67 true).run Ybaf.prog w = .ok (.tuple #[v, .bool true]) w := by kernel_rfl
theorem none_str (v u : Value) (w : World) : (binOp .eql 32 (.iface 76 v) (.iface 79 u)).run Ybaf.prog w = .ok (.bool false) w := run_eql_iface_types 76 79 v u Ybaf.underlying32 (by decide) w
theorem none_obj (v u : Value) (w : World) : (binOp .eql 32 (.iface 67 v) (.iface 79 u)).run Ybaf.prog w = .ok (.bool false) w := run_eql_iface_types 67 79 v u Ybaf.underlying32 (by decide) w
theorem comp76 : (Ybaf.prog.info? 76).map (·.comparable) = some true := by kernel_rfl
theorem eq_str (s : ByteArray) (w : World) : (binOp .eql 32 (.iface 76 (.string s)) (.iface 76 (.string s))).run Ybaf.prog w = .ok (.bool true) w := by
  obtain ⟨i, hi, hc⟩ := Option.map_eq_some_iff.1 comp76
  have h : ∀ d : Nat, (Op.equalIn (d + 2) 32 (.iface 76 (.string s)) (.iface 76 (.string s))).run Ybaf.prog w = .ok true w := fun d => by
    simp [Op.equalIn, run_underlying Ybaf.underlying32, run_underlying Ybaf.underlying76, typeInfo, hi, hc, beq_toListBytes]
  simp only [binOp]
  simp [Op.equal, Op.maxDepth, h 9998]

set_option maxRecDepth 100000 in
theorem val_any (d : Df) (B : Nat) (w : World) (h : d.Ok w B) (i : Nat) (_hi : i ≤ maxLen) :
    Calls Ybaf.prog 15 #[.slice d.vA d.vn d.vc, .int .i64 i] w fun e w' => e = .returned (.string (d.val i)) ∧ w' = w := by
  have hv := h.vn
  unfold maxLen at _hi hv
  by_cases hlt : i < d.vn
  · obtain ⟨⟨b, o, hA, hb, hc⟩, hs⟩ := h.vals i hlt
    have e : d.val i = d.V i := by simp [Df.val, hlt]
    rw [hA, e]
    clear e hA h
    go_enter Ybaf.func15, Ybaf.ntmps15
    go_wp2_with fail
    go_ret
    exact ⟨rfl, rfl⟩
  · have e : d.val i = ⟨#[]⟩ := by simp [Df.val, hlt]
    rw [e]
    clear e h
    go_enter Ybaf.func15, Ybaf.ntmps15
    go_wp2_with fail
    go_ret
    exact ⟨rfl, rfl⟩

set_option maxRecDepth 100000 in
theorem newResolver_any (w : World) :
    Calls Ybaf.prog 6 #[.pointer none, .agg #[.nilFunc, .pointer none]] w fun e w' => (∃ rb, e = .returned (.pointer (some ⟨rb, 0, none⟩))) ∧ Below w.heap.size w w' := by
  have hmm := @run_makeMap Ybaf.prog
  go_enter Ybaf.func6, Ybaf.ntmps6
  go_wp2_with fail
  go_ret
  exact ⟨⟨_, rfl⟩, ((((Below.refl _ _).alloc (Nat.le_refl _) _).alloc (by simp) _).alloc (by simp; omega) _).alloc (by simp; omega) _⟩

set_option maxRecDepth 100000 in
theorem resolve_lit (r q : Nat) (v : Value) (w : World) (h : w.cell? ⟨q, 2, none⟩ = some v) :
    Calls Ybaf.prog 12 #[.pointer (some ⟨r, 0, none⟩), .iface 71 (.pointer (some ⟨q, 0, none⟩))] w fun e w' => e = .returned (.tuple #[v, .bool true, .nilIface]) ∧ w' = w := by
  have h1 := as_lit
  go_enter Ybaf.func12, Ybaf.ntmps12
  go_wp2_with fail
  go_ret3
  exact ⟨rfl, rfl⟩

theorem zero32 (w : World) : (zeroValue 32).run Ybaf.prog w = .ok .nilIface w := by kernel_rfl

/-- The key is not there: absent. -/
theorem look_absent (mb n : Nat) (f : ByteArray → Value) (h : ByteArray → Bool) (b o pn pc : Nat) (s : ByteArray) (w : World) (m : MapIs Ybaf.prog 9 .nilIface w mb n f h) (hc : w.cell? ⟨b, o, none⟩ = some (.string s)) (hs : s.size ≤ maxLen) (hp : 0 < pn) (hh : h s = false) :
    Calls Ybaf.prog 13 #[.map (some mb), .slice (some ⟨b, o, none⟩) pn pc] w fun e w' => e = .returned (.tuple #[.nilIface, .int .i64 0]) ∧ w' = w := by
  have hl := m.look_ok Ybaf.underlying9 Ybaf.underlying67 (zero32 w) hs
  rw [hh] at hl
  go_enter Ybaf.func13, Ybaf.ntmps13
  go_wp2_with fail
  go_ret2
  exact ⟨rfl, rfl⟩

/-- A path of one element. -/
theorem look_one (mb n : Nat) (f : ByteArray → Value) (h : ByteArray → Bool) (b o pc : Nat) (s : ByteArray) (w : World) (m : MapIs Ybaf.prog 9 .nilIface w mb n f h) (hc : w.cell? ⟨b, o, none⟩ = some (.string s)) (hs : s.size ≤ maxLen) (hh : h s = true)
    (t : TypeId) (v : Value) (hf : f s = .iface t v) (ht : t ≠ 79) :
    Calls Ybaf.prog 13 #[.map (some mb), .slice (some ⟨b, o, none⟩) 1 pc] w fun e w' => e = .returned (.tuple #[.iface t v, .int .i64 2]) ∧ w' = w := by
  have hl := m.look_ok Ybaf.underlying9 Ybaf.underlying67 (zero32 w) hs
  rw [hh, hf] at hl
  have h1 : ∀ u w, (binOp .eql 32 (.iface t v) (.iface 79 u)).run Ybaf.prog w = .ok (.bool false) w := fun u w => run_eql_iface_types t 79 v u Ybaf.underlying32 ht w
  clear hf hh ht
  go_enter Ybaf.func13, Ybaf.ntmps13
  go_wp2_with fail
  go_ret2
  exact ⟨rfl, rfl⟩

/-- A string below which the path goes on. -/
theorem look_str (mb n : Nat) (f : ByteArray → Value) (h : ByteArray → Bool) (b o pn pc : Nat) (s : ByteArray) (w : World) (m : MapIs Ybaf.prog 9 .nilIface w mb n f h) (hc : w.cell? ⟨b, o, none⟩ = some (.string s)) (hs : s.size ≤ maxLen) (hh : h s = true)
    (v : Value) (hf : f s = .iface 76 v) (hp : 1 < pn) :
    Calls Ybaf.prog 13 #[.map (some mb), .slice (some ⟨b, o, none⟩) pn pc] w fun e w' => e = .returned (.tuple #[.nilIface, .int .i64 1]) ∧ w' = w := by
  have hl := m.look_ok Ybaf.underlying9 Ybaf.underlying67 (zero32 w) hs
  rw [hh, hf] at hl
  have h1 := none_str
  have h2 := as_str
  have h3 : decide ((pn : Int) = 1) = false := decide_eq_false (by omega)
  have h4 : ((pn : Int) == 1) = false := by simpa using h3
  clear hf hh
  go_enter Ybaf.func13, Ybaf.ntmps13
  go_wp2_with fail
  go_ret2
  exact ⟨rfl, rfl⟩

/-- An object below which the path goes on. -/
theorem look_deep (mb n : Nat) (f : ByteArray → Value) (h : ByteArray → Bool) (b o pn pc : Nat) (s : ByteArray) (w : World) (m : MapIs Ybaf.prog 9 .nilIface w mb n f h) (hc : w.cell? ⟨b, o, none⟩ = some (.string s)) (hs : s.size ≤ maxLen) (hh : h s = true)
    (c : Nat) (hf : f s = .iface 67 (.map (some c))) (hp : 1 < pn) (hpc : pn ≤ pc) (hpm : pn ≤ maxLen) (x y : Value)
    (hin : Calls Ybaf.prog 13 #[.map (some c), .slice (some ⟨b, o + 1, none⟩) (pn - 1) (pc - 1)] w fun e w' => e = .returned (.tuple #[x, y]) ∧ w' = w) :
    Calls Ybaf.prog 13 #[.map (some mb), .slice (some ⟨b, o, none⟩) pn pc] w fun e w' => e = .returned (.tuple #[x, y]) ∧ w' = w := by
  have hl := m.look_ok Ybaf.underlying9 Ybaf.underlying67 (zero32 w) hs
  rw [hh, hf] at hl
  have h1 := none_obj
  have h2 := as_obj
  have h3 : decide ((pn : Int) = 1) = false := decide_eq_false (by omega)
  have h4 : ((pn : Int) == 1) = false := by simpa using h3
  unfold maxLen at hpm
  clear hf hh
  go_enter Ybaf.func13, Ybaf.ntmps13
  go_wp2_with fail
  refine hin.mono ?_
  rintro e w1 ⟨rfl, rfl⟩
  go_wp2_with fail
  go_ret2
  exact ⟨rfl, rfl⟩

/-- The check: what the model says is what was found. -/
theorem check_any (r : Res) (v : Value) (w : World) (h : Holds w r v) :
    Calls Ybaf.prog 10 #[v, .int .i64 r.code, .nilIface, .int .i64 r.code, .string r.text, .bool r.wrapped] w fun e w' => e = .returned (.bool true) ∧ w' = w := by
  have h1 := as_obj
  have h2 := eq_str
  cases h with
  | absent =>
    simp only [Res.code, Res.text, Res.wrapped]
    go_enter Ybaf.func10, Ybaf.ntmps10
    go_wp2_with fail
    go_ret
    exact ⟨rfl, rfl⟩
  | hidden =>
    simp only [Res.code, Res.text, Res.wrapped]
    go_enter Ybaf.func10, Ybaf.ntmps10
    go_wp2_with fail
    go_ret
    exact ⟨rfl, rfl⟩
  | str s =>
    simp only [Res.code, Res.text, Res.wrapped]
    go_enter Ybaf.func10, Ybaf.ntmps10
    go_wp2_with fail
    go_ret
    exact ⟨rfl, rfl⟩
  | obj s c hl =>
    have h3 := hl.len
    have h4 := hl.map.look Ybaf.underlying9 Ybaf.underlying67 (zero32 w) sx_size
    simp only [if_true] at h4
    unfold sx at h4
    simp only [Res.code, Res.text, Res.wrapped]
    go_enter Ybaf.func10, Ybaf.ntmps10
    go_wp2_with fail
    go_ret
    exact ⟨rfl, rfl⟩
end Go.Proofs.YbulkcfocFmt
