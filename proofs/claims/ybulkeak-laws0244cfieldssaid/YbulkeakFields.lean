import Derived.Test.YbulkeakCall
import Derived.Deep.DeepCutAuto
set_option linter.unusedVariables false
namespace Go.Proofs.Ybulkeak
open Go.RowKit

/-- What the law reads of the call's query. -/
theorem look_key {W : World} {b g : Nat} (hb : W.heap[b]? = some (.map #[⟨.string { data := #[107, 101, 121] }, .slice (some ⟨g, 0, none⟩) 1 1, 0⟩] 1)) :
    (Instr.lookup 24 (.map (some b)) (.string { data := #[107, 101, 121] }) true).run Yba.prog W = .ok (.tuple #[.slice (some ⟨g, 0, none⟩) 1 1, .bool true]) W := by
  have hc : (Instr.checkKey false 10000 9 (.string { data := #[107, 101, 121] })).run Yba.prog W = .ok () W := MapKept.run_checkKey (k := .string _) Yba.underlying9 (by simp [MapKept.IsKey]) _ 9999
  have hf : Instr.findNow .string (.string { data := #[107, 101, 121] }) [⟨.string { data := #[107, 101, 121] }, .slice (some ⟨g, 0, none⟩) 1 1, 0⟩] 0 = some (some (0, .slice (some ⟨g, 0, none⟩) 1 1)) := by rfl
  simp [Instr.lookup, run_underlying Yba.underlying24, MapKept.run_getObj_map hb, hc, MapKept.run_findKey Yba.underlying9 hf, Result.andThen]

theorem len_key {W : World} {b g : Nat} (hb : W.heap[b]? = some (.map #[⟨.string { data := #[107, 101, 121] }, .slice (some ⟨g, 0, none⟩) 1 1, 0⟩] 1)) :
    (Builtin.len_ #[24] 3 #[.map (some b)]).run Yba.prog W = .ok (.int .i64 1) W := by
  simp [Builtin.len_, run_underlying Yba.underlying24, MapKept.run_getObj_map hb, Result.andThen, goInt]

set_option maxRecDepth 100000 in
theorem fields_of (m p k : ByteArray) (v bv : Value) (ct : ByteArray) (w : World)
    (hC : Calls Yba.prog 5 #[.string m, .string p, .string k, v] w fun e w' => e = .returned (.agg #[.string m, .string p, .map (some (w.heap.size + 1)), bv, .string ct, .int .i64 4194304]) ∧
      w'.heap[w.heap.size + 1]? = some (.map #[⟨.string { data := #[107, 101, 121] }, .slice (some ⟨w.heap.size + 2, 0, none⟩) 1 1, 0⟩] 1) ∧ w'.cell? ⟨w.heap.size + 2, 0, none⟩ = some (.string k) ∧ Below w.heap.size w w')
    (hv : ∃ a n c, bv = .slice a n c) :
    Calls Yba.prog 3 #[.string m, .string p, .string k, v] w fun e w' => e = .returned (.bool true) ∧ Below w.heap.size w w' := by
  obtain ⟨ba, bn, bc, rfl⟩ := hv
  have HC := hide hC
  clear hC
  go_enter Yba.func3, Yba.ntmps3
  go_upto_region 2 with (go_at_call 5; refine Calls.mono HC.out ?_; rintro e w' ⟨rfl, hm, hk, hb⟩)
  have hlt : w.heap.size + 1 < w'.heap.size := (Array.getElem?_eq_some_iff.1 hm).1
  have hlt2 : w.heap.size + 2 < w'.heap.size := by
    by_cases h : w.heap.size + 2 < w'.heap.size
    · exact h
    · simp [World.cell?, Array.getElem?_eq_none (Nat.le_of_not_lt h)] at hk
  have hm' := fun o => (Below.heap_alloc w' o _ hlt).trans hm
  have hl := fun o => look_key (hm' o)
  have hn := fun o => len_key (hm' o)
  clear hm
  go_wp2
  go_ret
  exact ⟨rfl, hb.alloc hb.size _⟩
end Go.Proofs.Ybulkeak
