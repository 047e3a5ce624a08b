import Derived.Test.YbulkeakCall
import Derived.Deep.DeepCutAuto
import Derived.Deep.QuietTactic
import Derived.BigQuiet
import Derived.Laws.IdiomStrings
import Derived.LaidEqlPtr
set_option linter.unusedVariables false
namespace Go.Proofs.Ybulkeak
open Go.RowKit

set_option maxRecDepth 100000 in
theorem equal_same (a : Addr) (n c : Nat) (s : ByteArray) (w : World) (h : (convert 22 9 (.slice (some a) n c)).run Yba.prog w = .ok (.string s) w) :
    Calls Yba.prog 6 #[.slice (some a) n c, .slice (some a) n c] w fun e w' => e = .returned (.bool true) ∧ w = w' := by
  go_enter Yba.func6, Yba.ntmps6
  go_wp2
  go_ret
  exact ⟨by simp, rfl⟩

set_option maxRecDepth 100000 in
theorem eql_nil (a : Option Addr) (n c : Nat) (w : World) : (binOp .eql 22 (.slice a n c) (.slice none 0 0)).run Yba.prog w = .ok (.bool a.isNone) w :=
  Lib.run_eql_slice_nil (P := Yba.prog) w 22 5 a n c 0 0 Yba.underlying22

set_option maxRecDepth 100000 in
theorem body_nil (k : ByteArray) (w : World) :
    Calls Yba.prog 4 #[.string k, .slice none 0 0] w fun e w' => e = .returned (.bool true) ∧ Below w.heap.size w w' := by
  have hq := eql_nil
  have HC := hide (call_nil { data := #[80, 85, 84] } { data := #[47, 118] } k w)
  go_enter Yba.func4, Yba.ntmps4
  go_upto_region 2 with (go_at_call 5; refine Calls.mono HC.out ?_; rintro e w' ⟨rfl, hm, hk, hb⟩)
  clear HC hm hk
  go_wp2
  go_ret
  exact ⟨rfl, hb.alloc hb.size _⟩

set_option maxRecDepth 100000 in
theorem neq_same (a : Addr) (w : World) : (binOp .neq 32 (.pointer (some a)) (.pointer (some a))).run Yba.prog w = .ok (.bool false) w := by
  have hj : ∃ j, Yba.prog.info? 5 = some j := by
    have : (Yba.prog.info? 5).isSome = true := by kernel_rfl
    exact Option.isSome_iff_exists.1 this
  obtain ⟨j, hj⟩ := hj
  have h : ∀ d : Nat, (Op.equalIn (d + 1) 32 (.pointer (some a)) (.pointer (some a))).run Yba.prog w = .ok true w := fun d => by
    simp [Op.equalIn, run_underlying Yba.underlying32, sizeOf, typeInfo, hj, run_sameAddr_same]
  simp only [binOp]
  simp [Op.equal, Op.maxDepth, h 9999]

set_option maxRecDepth 100000 in
theorem body_some (k : ByteArray) (a : Addr) (n c : Nat) (w : World) (l : List UInt8) (hl : l.length = n) (hn : n ≤ maxLen)
    (hc : ∀ j (hj : j < l.length), w.cell? (a.add j) = some (.int .u8 (l[j].toNat : Int))) (hlt : ∀ j, j < n → (a.add j).block < w.heap.size) :
    Calls Yba.prog 4 #[.string k, .slice (some a) n c] w fun e w' => e = .returned (.bool true) ∧ Below w.heap.size w w' := by
  have hq := eql_nil
  have hne := neq_same a
  have HC := hide (call_some { data := #[80, 85, 84] } { data := #[47, 118] } k a n c w)
  have Hc := hide hc
  have Hlt := hide hlt
  have HL := hide hl
  clear hc hlt hl
  unfold maxLen at hn
  go_enter Yba.func4, Yba.ntmps4
  go_upto_region 2 with (go_at_call 5; refine Calls.mono HC.out ?_; rintro e w' ⟨rfl, hm, hk, hb⟩)
  clear HC hm hk
  have hcv : ∀ o, (convert 22 9 (.slice (some a) n c)).run Yba.prog (w'.alloc o) = .ok (.string ⟨l.toArray⟩) (w'.alloc o) := by
    intro o
    have bel : Below w.heap.size w (w'.alloc o) := hb.alloc hb.size _
    rw [← HL.out]
    exact run_convert_bytes_back (w'.alloc o) 22 9 5 a c l Yba.underlying22 Yba.underlying5 Yba.underlying9 (fun j hj => (bel.cell (Hlt.out j (by rw [← HL.out]; exact hj))).trans (Hc.out j hj))
  have HE := hide (fun o => equal_same a n c _ _ (hcv o))
  clear hcv
  go_upto_region 8 with (go_at_call 6; refine Calls.mono (HE.out _) ?_; rintro e w' ⟨rfl, rfl⟩)
  by_cases h0 : 0 < n
  · have hI : (0 : Int) < (n : Int) := by omega
    have hd : decide ((0 : Int) < (n : Int)) = true := by simpa using h0
    go_quiet (fail)
    go_wp2
    go_ret
    exact ⟨rfl, below_drewN (hb.alloc hb.size _) _⟩
  · have hd : decide ((0 : Int) < (n : Int)) = false := by simpa using h0
    go_quiet (fail)
    go_wp2
    go_ret
    exact ⟨rfl, below_drewN (hb.alloc hb.size _) _⟩
end Go.Proofs.Ybulkeak
