import Derived.Test.YbulkecaRows
import Derived.WalkKit
import Derived.WalkSpells
import Derived.WalkLawsBesides
import Derived.Outline
import Derived.LaidEql
import Derived.Laws.LoneSync
import Derived.RowKitTokens
import Derived.Below
set_option linter.unusedVariables false
namespace Go.Proofs.Ybulkeca
open Go.RowKit

theorem hide {p : Prop} (h : p) : Hid p := h

theorem load_at (b o : Nat) (x : Int) (w : World) (hc : w.cell? ⟨b, o, none⟩ = some (.int .u64 x)) :
    Calls Yba.prog 29 #[.pointer (some ⟨b, o, none⟩)] w fun e w' => e = .returned (.int .u64 x) ∧ w = w' := by
  have hl := run_call_load (P := Yba.prog) Yba.func43 (by kernel_rfl) (by kernel_rfl) (by kernel_rfl) .u64 (by kernel_rfl) hc
  go_enter Yba.func29, Yba.ntmps29
  go_wp2
  go_ret
  exact ⟨rfl, rfl⟩

theorem store_at (b o : Nat) (u : Value) (y : Int) (w : World) (hc : w.cell? ⟨b, o, none⟩ = some u) (hz : w.frozen? ⟨b, o, none⟩ = false) :
    Calls Yba.prog 28 #[.pointer (some ⟨b, o, none⟩), .int .u64 y] w fun e w' => e = .returned (.tuple #[]) ∧ w' = w.setCell ⟨b, o, none⟩ (.int .u64 y) := by
  have hl := run_call_store (P := Yba.prog) Yba.func42 (by kernel_rfl) (by kernel_rfl) (by kernel_rfl) (by kernel_rfl) (k := .u64) (y := y) hc hz
  go_enter Yba.func28, Yba.ntmps28
  go_wp2
  go_end0
  exact ⟨rfl, rfl⟩

theorem cas_at (b o : Nat) (x y : Int) (w : World) (hc : w.cell? ⟨b, o, none⟩ = some (.int .u64 x)) (hz : w.frozen? ⟨b, o, none⟩ = false) :
    Calls Yba.prog 30 #[.pointer (some ⟨b, o, none⟩), .int .u64 x, .int .u64 y] w fun e w' => e = .returned (.bool true) ∧ w' = w.setCell ⟨b, o, none⟩ (.int .u64 y) := by
  have hl := run_call_cas_hit (P := Yba.prog) Yba.func44 (by kernel_rfl) (by kernel_rfl) (by kernel_rfl) .u64 (by kernel_rfl) (y := y) hc hz
  go_enter Yba.func30, Yba.ntmps30
  go_wp2
  go_ret
  exact ⟨rfl, rfl⟩

theorem add_at (b o : Nat) (x y s : Int) (w : World) (hc : w.cell? ⟨b, o, none⟩ = some (.int .u64 x)) (hz : w.frozen? ⟨b, o, none⟩ = false) (hs : (Op.intArith .add .u64 x y).run Yba.prog w = .ok (.int .u64 s) w) :
    Calls Yba.prog 35 #[.pointer (some ⟨b, o, none⟩), .int .u64 y] w fun e w' => e = .returned (.int .u64 s) ∧ w' = w.setCell ⟨b, o, none⟩ (.int .u64 s) := by
  have hl := run_call_add (P := Yba.prog) Yba.func47 (by kernel_rfl) (by kernel_rfl) (by kernel_rfl) .u64 (by kernel_rfl) hc hz hs
  clear hs
  go_enter Yba.func35, Yba.ntmps35
  go_wp2
  go_ret
  exact ⟨rfl, rfl⟩

/-- The ring's block. -/
def ringObj (x0 x1 x2 x3 : Value) : Obj := .cells #[x0, x1, x2, x3] 115 (0, 0)

theorem lies115 : liesAt Yba.prog Yba.prog.depth 115 (4 / Yba.prog.cellsOf 115) 0 115 1 = true := by kernel_rfl
theorem size115 : (Yba.prog.info? 115).map (fun i => decide (i.size = 0)) = some false := by kernel_rfl

theorem conv_from {R : Nat} {x0 x1 x2 x3 : Value} {w : World} (h : w.heap[R]? = some (ringObj x0 x1 x2 x3)) : (convert 59 105 (.pointer (some ⟨R, 0, none⟩))).run Yba.prog w = .ok (.pointer (some ⟨R, 0, none⟩)) w := by
  obtain ⟨i, hi, hz0⟩ := Option.map_eq_some_iff.1 size115
  have hz : i.size ≠ 0 := by simpa using hz0
  have hsh : w.shape? R = some (115, 4) := by simp [World.shape?, h, ringObj]
  have hl := lies115
  simp only [convert, Sem.run_bind, run_underlying Yba.underlying59, run_underlying Yba.underlying105, Result.andThen]
  refine (Sem.run_bind _ _ _ _).trans ?_
  simp [Conv.seenAt, viewAt, cellsIn, sizeOf, typeInfo, run_underlying Yba.underlying59, run_underlying Yba.underlying105, hi, hz, hsh, variablesAt, hl, Result.andThen]

theorem conv_none (w : World) : (convert 59 105 (.pointer none)).run Yba.prog w = .ok (.pointer none) w := by
  kernel_rfl

theorem conv_to {R : Nat} {x0 x1 x2 x3 : Value} {w : World} (h : w.heap[R]? = some (ringObj x0 x1 x2 x3)) : (convert 105 59 (.pointer (some ⟨R, 0, none⟩))).run Yba.prog w = .ok (.pointer (some ⟨R, 0, none⟩)) w := by
  obtain ⟨i, hi, hz0⟩ := Option.map_eq_some_iff.1 size115
  have hz : i.size ≠ 0 := by simpa using hz0
  have hsh : w.shape? R = some (115, 4) := by simp [World.shape?, h, ringObj]
  simp only [convert, Sem.run_bind, run_underlying Yba.underlying59, run_underlying Yba.underlying105, Result.andThen]
  refine (Sem.run_bind _ _ _ _).trans ?_
  simp [Conv.seenAt, viewAt, cellsIn, sizeOf, typeInfo, run_underlying Yba.underlying59, run_underlying Yba.underlying105, hi, hz, hsh, Result.andThen]

theorem run_call_loadp {f : FuncId} {fn : Func} {P : Program} (hf : P.funcs[f]? = some fn) (hname : (fn.name == "runtime.NumGoroutine") = false) (hb : fn.body.isNone = true) (hn : Extern.findNext fn = none)
    (he : Extern.find fn = some (Extern.Atomic.loadT .ptr)) {a : Addr} {x : Option Addr} {w : World} (hc : w.cell? a = some (.pointer x)) :
    (callFunc f #[.pointer (some a)]).run P w = .ok (.value (.pointer x)) w := by
  rw [run_callFunc_extern hf hname hb hn he]
  change (Sem.run P (do Extern.Atomic.read .ptr (← asAddr (.pointer (some a)))) w).andThen _ = _
  simp [Extern.Atomic.read, asAddr, hc, Result.andThen]

theorem run_call_storep {f : FuncId} {fn : Func} {P : Program} (hf : P.funcs[f]? = some fn) (hname : (fn.name == "runtime.NumGoroutine") = false) (hb : fn.body.isNone = true) (hn : Extern.findNext fn = none)
    (he : Extern.find fn = some Extern.Atomic.storeT) {a : Addr} {y : Option Addr} {u : Value} {w : World} (hc : w.cell? a = some u) (hz : w.frozen? a = false) :
    (callFunc f #[.pointer (some a), .pointer y]).run P w = .ok (.value (.tuple #[])) (w.setCell a (.pointer y)) := by
  rw [run_callFunc_extern hf hname hb hn he]
  change (Sem.run P (do
    store (← asAddr (.pointer (some a))) (.pointer y) .atomic
    pure Extern.Atomic.none_) w).andThen _ = _
  simp [asAddr, hc, hz, run_store P w a (.pointer y) .atomic rfl, Result.andThen, Extern.Atomic.none_]

theorem lit1 (A B C : Value) (h1 : (#[A, B, C] : Array Value).size = 3) (h2 : 1 < 3) : (#[A, B, C] : Array Value).getLit 1 h1 h2 = B := rfl
theorem lit2 (A B C : Value) (h1 : (#[A, B, C] : Array Value).size = 3) (h2 : 2 < 3) : (#[A, B, C] : Array Value).getLit 2 h1 h2 = C := rfl

theorem run_call_casp {f : FuncId} {fn : Func} {P : Program} (hf : P.funcs[f]? = some fn) (hname : (fn.name == "runtime.NumGoroutine") = false) (hb : fn.body.isNone = true) (hn : Extern.findNext fn = none)
    (he : Extern.find fn = some (Extern.Atomic.casT .ptr)) {a x : Addr} {y : Option Addr} {w : World} (hc : w.cell? a = some (.pointer (some x))) (hz : w.frozen? a = false) :
    (callFunc f #[.pointer (some a), .pointer (some x), .pointer y]).run P w = .ok (.value (.bool true)) (w.setCell a (.pointer y)) := by
  rw [run_callFunc_extern hf hname hb hn he]
  refine (congrArg (fun r => Result.andThen r _) (Sem.run_bind P w (asAddr (.pointer (some a))) _)).trans ?_
  simp [lit1, lit2, Extern.Atomic.touchesFrozen, Extern.Atomic.read, asAddr, viewAt, World.shape?_isSome_of_cell? hc, hc, hz, samePointer, run_sameAddr_same, run_store P w a (.pointer y) .atomic rfl, Result.andThen]

theorem loadp_at (b o R : Nat) (x0 x1 x2 x3 : Value) (w : World) (hc : w.cell? ⟨b, o, none⟩ = some (.pointer (some ⟨R, 0, none⟩))) (hr : w.heap[R]? = some (ringObj x0 x1 x2 x3)) :
    Calls Yba.prog 32 #[.pointer (some ⟨b, o, none⟩)] w fun e w' => e = .returned (.pointer (some ⟨R, 0, none⟩)) ∧ w = w' := by
  have hl := run_call_loadp (P := Yba.prog) Yba.func45 (by kernel_rfl) (by kernel_rfl) (by kernel_rfl) (by kernel_rfl) hc
  have hv := conv_from hr
  go_enter Yba.func32, Yba.ntmps32
  go_wp2
  go_ret
  exact ⟨rfl, rfl⟩

theorem loadp_nil (b o : Nat) (w : World) (hc : w.cell? ⟨b, o, none⟩ = some (.pointer none)) :
    Calls Yba.prog 32 #[.pointer (some ⟨b, o, none⟩)] w fun e w' => e = .returned (.pointer none) ∧ w = w' := by
  have hl := run_call_loadp (P := Yba.prog) Yba.func45 (by kernel_rfl) (by kernel_rfl) (by kernel_rfl) (by kernel_rfl) hc
  have hv := conv_none w
  go_enter Yba.func32, Yba.ntmps32
  go_wp2
  go_ret
  exact ⟨rfl, rfl⟩

theorem storep_at (b o R : Nat) (u x0 x1 x2 x3 : Value) (w : World) (hc : w.cell? ⟨b, o, none⟩ = some u) (hz : w.frozen? ⟨b, o, none⟩ = false) (hr : w.heap[R]? = some (ringObj x0 x1 x2 x3)) :
    Calls Yba.prog 27 #[.pointer (some ⟨b, o, none⟩), .pointer (some ⟨R, 0, none⟩)] w fun e w' => e = .returned (.tuple #[]) ∧ w' = w.setCell ⟨b, o, none⟩ (.pointer (some ⟨R, 0, none⟩)) := by
  have hl := run_call_storep (P := Yba.prog) Yba.func41 (by kernel_rfl) (by kernel_rfl) (by kernel_rfl) (by kernel_rfl) (y := some ⟨R, 0, none⟩) hc hz
  have hv := conv_to hr
  go_enter Yba.func27, Yba.ntmps27
  go_wp2
  go_end0
  exact ⟨rfl, rfl⟩

theorem casp_at (b o R R' : Nat) (x0 x1 x2 x3 y0 y1 y2 y3 : Value) (w : World) (hc : w.cell? ⟨b, o, none⟩ = some (.pointer (some ⟨R, 0, none⟩))) (hz : w.frozen? ⟨b, o, none⟩ = false) (hr : w.heap[R]? = some (ringObj x0 x1 x2 x3)) (hr' : w.heap[R']? = some (ringObj y0 y1 y2 y3)) :
    Calls Yba.prog 46 #[.pointer (some ⟨b, o, none⟩), .pointer (some ⟨R, 0, none⟩), .pointer (some ⟨R', 0, none⟩)] w fun e w' => e = .returned (.bool true) ∧ w' = w.setCell ⟨b, o, none⟩ (.pointer (some ⟨R', 0, none⟩)) := by
  have hl := run_call_casp (P := Yba.prog) Yba.func57 (by kernel_rfl) (by kernel_rfl) (by kernel_rfl) (by kernel_rfl) (y := some ⟨R', 0, none⟩) hc hz
  have hv := conv_to hr
  have hv' := conv_to hr'
  go_enter Yba.func46, Yba.ntmps46
  go_wp2
  go_ret
  exact ⟨rfl, rfl⟩
end Go.Proofs.Ybulkeca
