/-
  fmt.Errorf (30) at "%w %s" of a sentinel and a string: a new *fmt.wrapError that holds the sentinel's own value.
-/
import Derived.Test.YbulkcfnoFmtErr
namespace Go.Proofs.YbulkcfnoFmt
open Go Go.RowKit Go.Extern.Stop Go.Stop Go.Extern

theorem call39 (args : Array Value) (w : World) : (callFunc 39 args).run Ybaf.prog w = ((FmtStop.errorf #[9, 112] #[52] args).run Ybaf.prog w).andThen fun v w' => .ok (.value v) w' :=
  run_callFunc_extern Ybaf.func39 (by kernel_rfl) (by kernel_rfl) (by kernel_rfl) (by kernel_rfl) args w
theorem guardF (name : String) (w : World) : (FmtStop.guard name).run Ybaf.prog w = .ok () w := by kernel_rfl
theorem fmt0 : FmtStop.printed? ⟨#[37, 119, 32, 37, 115]⟩ 2 = some [(0, 119, false), (1, 115, false)] := by kernel_rfl
theorem fmt0r (w : World) : (FmtDoors.printed ⟨#[37, 119, 32, 37, 115]⟩ 2).run Ybaf.prog w = .ok [(0, 119, false), (1, 115, false)] w := by kernel_rfl
theorem fmt1 : FmtStop.printed? ⟨#[37, 119, 32, 37, 115]⟩ 0 = some [] := by kernel_rfl
theorem fmt1r (w : World) : (FmtDoors.printed ⟨#[37, 119, 32, 37, 115]⟩ 0).run Ybaf.prog w = .ok [] w := by kernel_rfl
def shape9 : List UInt8 := [12, 6, 0, 0, 0, 0, 0, 0, 0, 115, 116, 114, 105, 110, 103]
theorem op9_115w (name : String) (x : ByteArray) (w : World) : (FmtStop.operand name true 115 false (.iface 9 (.string x))).run Ybaf.prog w = .ok (shape9, FmtStop.pack x.data.toList) w := by kernel_rfl
theorem ptrW (w : World) : (FmtStop.ptrTo "fmt.wrapError").run Ybaf.prog w = .ok 113 w := by kernel_rfl
theorem elemW (w : World) : (elemOf 113).run Ybaf.prog w = .ok 164 w := by kernel_rfl
theorem isErrorE (w : World) : (FmtDoors.textMethod 73 "Error").run Ybaf.prog w = .ok true w := by kernel_rfl
theorem isErrorS (w : World) : (FmtDoors.textMethod 9 "Error").run Ybaf.prog w = .ok false w := by kernel_rfl
def plain73 : List UInt8 := 14 :: FmtStop.pack "*errors.errorString".toUTF8.data.toList
theorem opPlain73 (name : String) (a : Addr) (s : ByteArray) (w : World) (hc : w.cell? a = some (.string s)) :
    (FmtStop.operand name true 119 false (.iface 73 (.pointer (some a)))).run Ybaf.prog w = .ok (plain73, s.data.toList) w := by
  have h1 : (typeStr 73).run Ybaf.prog w = .ok "*errors.errorString" w := by kernel_rfl
  have d2 : Ybaf.t73.desc = .pointer 75 := rfl
  have d3 : Ybaf.t75.desc = .named "errors.errorString" 74 := rfl
  simp [FmtStop.operand, h1, d2, d3, run_load, hc, plain73]

set_option maxRecDepth 100000 in
set_option maxHeartbeats 1000000 in
theorem errorf_any (F : Interp) (a : Addr) (s id : ByteArray) (b : Nat) (w : World) (hF : F.answers w.tape) (h0 : w.cell? ⟨b, 0, none⟩ = some (.iface 73 (.pointer (some a)))) (h1 : w.cell? ⟨b, 1, none⟩ = some (.iface 9 (.string id))) (hs : w.cell? a = some (.string s)) :
    Calls Ybaf.prog 30 #[.string ⟨#[37, 119, 32, 37, 115]⟩, .slice (some ⟨b, 0, none⟩) 2 2] w fun e w' => e = .returned (.iface 113 (.pointer (some ⟨w.heap.size, 0, none⟩))) ∧
      ∃ T, w' = (w.alloc (.cells #[.string T, .iface 73 (.pointer (some a))] 164)).drew := by
  have hF' : ∀ i name reading k range, w.tape i (.extern (word name reading k) range) = F name reading k := hF
  have hop := opPlain73 "fmt.errorf" a s _ hs
  have c39 := call39
  have gd := guardF
  have f0 := fmt0
  have f0r := fmt0r
  have f1 := fmt1
  have f1r := fmt1r
  have o9 := op9_115w
  have pw := ptrW
  have ew := elemW
  have e1 := isErrorE
  have e2 := isErrorS
  go_enter Ybaf.func30, Ybaf.ntmps30
  go_wp2
  go_show
  go_ret
  exact ⟨rfl, _, rfl⟩
end Go.Proofs.YbulkcfnoFmt
