import Derived.Test.YbulkdzwFmtIs
import Derived.Stop.CallBack
import Derived.Stop.IfaceNil
import GoSem.ClaimData
set_option linter.unusedVariables false
namespace Go.Proofs.YbulkdzwFmt
open Go.RowKit Go.Extern.Stop Go.Stop Go.Extern

theorem call12 (args : Array Value) (w : World) : (callFunc 12 args).run Ybaf.prog w = ((FmtStop.errorf #[9, 84] #[26] args).run Ybaf.prog w).andThen fun v w' => .ok (.value v) w' :=
  run_callFunc_extern Ybaf.func12 (by kernel_rfl) (by kernel_rfl) (by kernel_rfl) (by kernel_rfl) args w
theorem guardF (name : String) (w : World) : (FmtStop.guard name).run Ybaf.prog w = .ok () w := by kernel_rfl
theorem fmtR (w : World) : (FmtDoors.printed ⟨#[108, 111, 99, 107, 32, 112, 114, 111, 99, 101, 115, 115, 32, 37, 115, 32, 115, 116, 111, 112, 112, 101, 100, 58, 32, 37, 119]⟩ 2).run Ybaf.prog w = .ok [(0, 115, false), (1, 119, false)] w := by kernel_rfl
def shape9 : List UInt8 := [12, 6, 0, 0, 0, 0, 0, 0, 0, 115, 116, 114, 105, 110, 103]
theorem op9 (name : String) (x : ByteArray) (w : World) : (FmtStop.operand name true 115 false (.iface 9 (.string x))).run Ybaf.prog w = .ok (shape9, FmtStop.pack x.data.toList) w := by kernel_rfl
theorem ptr85 (w : World) : (FmtStop.ptrTo "fmt.wrapError").run Ybaf.prog w = .ok 85 w := by kernel_rfl
theorem elem85 (w : World) : (elemOf 85).run Ybaf.prog w = .ok 118 w := by kernel_rfl
theorem isError62 (w : World) : (FmtDoors.textMethod 62 "Error").run Ybaf.prog w = .ok true w := by kernel_rfl
theorem op62 (name : String) (a : Addr) (s : ByteArray) (w : World) (hc : w.cell? a = some (.string s)) :
    ∃ l, (FmtStop.operand name true 119 false (.iface 62 (.pointer (some a)))).run Ybaf.prog w = .ok (l, s.data.toList) w := by
  have h1 : (typeStr 62).run Ybaf.prog w = .ok Ybaf.t62.str w := by kernel_rfl
  have d2 : Ybaf.t62.desc = .pointer 64 := rfl
  have d3 : Ybaf.t64.desc = .named "errors.errorString" 63 := rfl
  refine ⟨14 :: FmtStop.pack Ybaf.t62.str.toUTF8.data.toList, ?_⟩
  simp [FmtStop.operand, h1, d2, d3, run_load, hc]

set_option maxRecDepth 100000 in
theorem new_any (s : ByteArray) (w : World) :
    Calls Ybaf.prog 4 #[.string s] w fun e w' => e = .returned (.iface 62 (.pointer (some ⟨w.heap.size, 0, none⟩))) ∧ w.alloc (.cells #[.string s] 64) = w' := by
  go_enter Ybaf.func4, Ybaf.ntmps4
  go_wp2
  go_ret
  exact ⟨rfl, rfl⟩

set_option maxRecDepth 100000 in
/-- fmt.Errorf at the law's format and operands: a new *fmt.wrapError that holds the error handed in. -/
theorem errorf_any (F : Interp) (nm s : ByteArray) (ea : Addr) (V : Nat) (w : World) (hF : F.answers w.tape) (h0 : w.cell? ⟨V, 0, none⟩ = some (.iface 9 (.string nm))) (h1 : w.cell? ⟨V, 1, none⟩ = some (.iface 62 (.pointer (some ea))))
    (hs : w.cell? ea = some (.string s)) :
    Calls Ybaf.prog 11 #[.string { data := #[108, 111, 99, 107, 32, 112, 114, 111, 99, 101, 115, 115, 32, 37, 115, 32, 115, 116, 111, 112, 112, 101, 100, 58, 32, 37, 119] }, .slice (some ⟨V, 0, none⟩) 2 2] w fun e w' =>
      e = .returned (.iface 85 (.pointer (some ⟨w.heap.size, 0, none⟩))) ∧ ∃ txt, (w.alloc (.cells #[.string txt, .iface 62 (.pointer (some ea))] 118)).drew = w' := by
  have hF' := answers_open hF
  have k1 := call12
  have k2 := guardF
  have k3 := fmtR
  have k4 := op9
  have k5 := ptr85
  have k6 := elem85
  have k7 := isError62
  obtain ⟨l62, k8⟩ := op62 "fmt.errorf" ea s w hs
  go_enter Ybaf.func11, Ybaf.ntmps11
  go_wp2
  go_ret
  exact ⟨rfl, _, rfl⟩
end Go.Proofs.YbulkdzwFmt
