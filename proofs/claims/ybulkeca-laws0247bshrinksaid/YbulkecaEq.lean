import Derived.Test.YbulkecaBe
import Derived.LaidEql
set_option linter.unusedVariables false
namespace Go.Proofs.Ybulkeca
open Go.RowKit
theorem info79 : (Yba.prog.info? 79).map (fun i => i.size) = some 6 := by kernel_rfl
theorem equalIn72 (d : Nat) (a : Addr) (w : World) : (Op.equalIn (d + 1) 72 (.pointer (some a)) (.pointer (some a))).run Yba.prog w = .ok true w := by
  obtain ⟨i, hi, hs⟩ := Option.map_eq_some_iff.1 info79
  simp [Op.equalIn, run_underlying Yba.underlying72, sizeOf, typeInfo, hi, run_sameAddr_same]
theorem neq72 (a : Addr) (w : World) : (binOp .neq 72 (.pointer (some a)) (.pointer (some a))).run Yba.prog w = .ok (.bool false) w := by
  simp only [binOp]
  simp [Op.equal, Op.maxDepth, equalIn72 9999]
theorem or_nat (d r : Nat) (hr : r < 4294967296) : (d * 4294967296) ||| r = d * 4294967296 + r := by
  have h := Nat.two_pow_add_eq_or_of_lt (i := 32) (b := r) (by simpa using hr) d
  have e : (2 : Nat) ^ 32 = 4294967296 := by decide
  rw [e, Nat.mul_comm] at h
  exact h.symm
theorem or_at (d r : Nat) (hr : r < 4294967296) (hd : d ≤ 1048576) : bits .or .i64 ((d : Int) * 4294967296) (r : Int) = (d : Int) * 4294967296 + r := by
  have hx := or_nat d r hr
  have q1 : (BitVec.ofInt 64 ((d * 4294967296 : Nat) : Int)).toNat = d * 4294967296 := by
    rw [BitVec.ofInt_natCast, BitVec.toNat_ofNat]; exact Nat.mod_eq_of_lt (by omega)
  have q2 : (BitVec.ofInt 64 (r : Int)).toNat = r := by
    rw [BitVec.ofInt_natCast, BitVec.toNat_ofNat]; exact Nat.mod_eq_of_lt (by omega)
  rw [show ((d : Int) * 4294967296) = ((d * 4294967296 : Nat) : Int) by omega]
  show IntKind.i64.wrap ((BitVec.ofInt 64 ((d * 4294967296 : Nat) : Int) ||| BitVec.ofInt 64 (r : Int)).toNat : Int) = _
  rw [BitVec.toNat_or, q1, q2, hx, IntKind.wrap_i64]
  omega
theorem hwr_at (r : Nat) (hr : r < 256) : wrap64 (r : Int) = r := by unfold wrap64; omega
end Go.Proofs.Ybulkeca
