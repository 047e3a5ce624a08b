import Derived.Test.YbulkdzwRows
import Derived.WalkKit
import Derived.WalkSpells
import Derived.WalkLawsBesides
import Derived.Outline
import Derived.Lib.Bytealg
namespace Go.Proofs.Ybulkdzw
open Go.RowKit

/-- The k-th host's name. -/
def hn (k : Nat) : ByteArray := { data := #[UInt8.ofNat (97 + k)] }

theorem hn_cmp (i j : Nat) (hi : i < 5) (hj : j < 5) : Lib.compareBytes (hn i).data.toList (hn j).data.toList = if i < j then -1 else if j < i then 1 else 0 := by
  match i, hi with
  | 0, _ => match j, hj with | 0, _ => rfl | 1, _ => rfl | 2, _ => rfl | 3, _ => rfl | 4, _ => rfl
  | 1, _ => match j, hj with | 0, _ => rfl | 1, _ => rfl | 2, _ => rfl | 3, _ => rfl | 4, _ => rfl
  | 2, _ => match j, hj with | 0, _ => rfl | 1, _ => rfl | 2, _ => rfl | 3, _ => rfl | 4, _ => rfl
  | 3, _ => match j, hj with | 0, _ => rfl | 1, _ => rfl | 2, _ => rfl | 3, _ => rfl | 4, _ => rfl
  | 4, _ => match j, hj with | 0, _ => rfl | 1, _ => rfl | 2, _ => rfl | 3, _ => rfl | 4, _ => rfl

theorem ret_str {a b : ByteArray} (h : a = b) : Ending.returned (.string a) = .returned (.string b) := by rw [h]

set_option maxRecDepth 100000 in
theorem host_any (k : Nat) (w : World) (hk : k < 5) :
    Calls Yba.prog 5 #[.int .i64 k] w fun e w' => e = .returned (.string (hn k)) ∧ w = w' := by
  match k, hk with
  | 0, _ => go_enter Yba.func5, Yba.ntmps5; go_wp2; go_ret; exact ⟨rfl, rfl⟩
  | 1, _ => go_enter Yba.func5, Yba.ntmps5; go_wp2; go_ret; exact ⟨rfl, rfl⟩
  | 2, _ => go_enter Yba.func5, Yba.ntmps5; go_wp2; go_ret; exact ⟨rfl, rfl⟩
  | 3, _ => go_enter Yba.func5, Yba.ntmps5; go_wp2; go_ret; exact ⟨rfl, rfl⟩
  | 4, _ => go_enter Yba.func5, Yba.ntmps5; go_wp2; go_ret; exact ⟨rfl, rfl⟩

set_option maxRecDepth 100000 in
theorem cmp14 (a b : ByteArray) (w : World) :
    Calls Yba.prog 14 #[.string a, .string b] w fun e w' => e = .returned (.int .i64 (Lib.compareBytes a.data.toList b.data.toList)) ∧ w = w' := by
  go_enter Yba.func14, Yba.ntmps14
  go_wp2
  rw [run_callFunc_extern Yba.func15 (by kernel_rfl) (by kernel_rfl) (by kernel_rfl) (e := Extern.BytealgCompare.compare) (by kernel_rfl), Lib.run_compareString]
  simp only [Result.andThen]
  rw [Oper.upon_value]
  go_wp2
  go_ret
  exact ⟨rfl, rfl⟩

theorem cmp13 (a b : ByteArray) (w : World) :
    Calls Yba.prog 13 #[.string a, .string b] w fun e w' => e = .returned (.int .i64 (Lib.compareBytes a.data.toList b.data.toList)) ∧ w = w' := by
  go_enter Yba.func13, Yba.ntmps13
  go_wp2_with (go_at_call 14; refine (cmp14 _ _ _).mono ?_; rintro e w' ⟨rfl, rfl⟩)
  go_ret
  exact ⟨rfl, rfl⟩

theorem cmp12 (a b : ByteArray) (c : Int) (w : World) :
    Calls Yba.prog 12 #[.agg #[.string a, .int .u64 c], .string b] w fun e w' => e = .returned (.int .i64 (Lib.compareBytes a.data.toList b.data.toList)) ∧ Below w.heap.size w w' := by
  go_enter Yba.func12, Yba.ntmps12
  go_wp2_with (go_at_call 13; refine (cmp13 _ _ _).mono ?_; rintro e w' ⟨rfl, rfl⟩)
  go_ret
  exact ⟨rfl, (Below.refl _ _).alloc (Nat.le_refl _) _⟩
end Go.Proofs.Ybulkdzw
