import Derived.Test.YbulkdzwRows
import Derived.WalkKit
import Derived.WalkSpells
import Derived.WalkLawsBesides
import Derived.Outline
namespace Go.Proofs.Ybulkdzw
open Go.RowKit

def nm (i : Nat) : ByteArray := Utf8.encode (19968 + (i : Int))

set_option maxRecDepth 100000 in
theorem name_any (i : Nat) (w : World) (hi : i < 1024) :
    Calls Yba.prog 7 #[.int .i64 i] w fun e w' => e = .returned (.string (nm i)) ∧ w = w' := by
  go_enter Yba.func7, Yba.ntmps7
  go_wp2
  go_ret
  exact ⟨rfl, rfl⟩
end Go.Proofs.Ybulkdzw
