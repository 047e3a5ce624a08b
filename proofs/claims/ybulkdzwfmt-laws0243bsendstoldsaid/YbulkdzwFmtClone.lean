import Derived.Test.YbulkdzwFmtOthers
set_option linter.unusedVariables false
namespace Go.Proofs.YbulkdzwFmt
open Go.RowKit Go.Extern.Stop Go.Stop Go.Extern

theorem eql_nil (a : Option Addr) (n c : Nat) (w : World) : (binOp .eql 22 (.slice a n c) (.slice none 0 0)).run Ybaf.prog w = .ok (.bool a.isNone) w :=
  Lib.run_eql_slice_nil (P := Ybaf.prog) w 22 9 a n c 0 0 Ybaf.underlying22

set_option maxRecDepth 100000 in
theorem clone_nil (w : World) : Calls Ybaf.prog 5 #[.slice none 0 0] w fun e w' => e = .returned (.slice none 0 0) ∧ w = w' := by
  have hq := eql_nil
  go_enter Ybaf.func5, Ybaf.ntmps5
  go_wp2
  go_ret
  exact ⟨rfl, rfl⟩

theorem own_empty (w : World) : (w.alloc (.cells #[] 9)).ownsRow w.heap.size 9 1 (.slice (some ⟨w.heap.size, 0, none⟩) 0 0) 0 [] :=
  ⟨rfl, .inr ⟨w.heap.size, 0, #[], rfl, Nat.le_refl _, (MapKept.heap_alloc w _).1, Nat.le_refl _, Nat.zero_le _, rfl, rfl⟩⟩

set_option maxRecDepth 100000 in
theorem clone_some (a : Addr) (n c : Nat) (os : Nat → ByteArray) (w : World) (hn : n ≤ 1024) (hc : ∀ j, j < n → w.cell? (a.add j) = some (.string (os j)) ∧ (a.add j).block < w.heap.size) :
    Calls Ybaf.prog 5 #[.slice (some a) n c] w fun e w' => ∃ v, e = .returned v ∧ w'.ownsRow w.heap.size 9 1 v n (toL os n) ∧ Below w.heap.size w w' := by
  have hq := eql_nil
  obtain ⟨i9, hi9, hz9, hs9, hb9⟩ := info_parts info9
  have HC := hide hc
  clear hc
  go_enter Ybaf.func5, Ybaf.ntmps5
  go_wp2_with (at_builtin; refine wpList_append_own _ rfl _ _ 22 rfl w.heap.size 9 i9 (.string { data := #[] }) 1 16 Ybaf.underlying22 hi9 hz9 hs9 hb9 rfl (by decide) (.slice (some ⟨w.heap.size, 0, none⟩) 0 0) 0 [] rfl (own_empty w) a n c (toL os n) rfl (by simp [toL]) ?_ ?_ (by unfold maxLen; omega) (by omega) (by simp) ?_)
  · intro j u hj
    have hjn : j < n := by have := (List.getElem?_eq_some_iff.1 hj).1; simpa [toL] using this
    obtain ⟨h1, h2⟩ := HC.out j hjn
    rw [World.cell?_of_block (a := a.add j) (Below.heap_alloc _ _ _ h2), h1]
    simpa [toL, hjn] using hj
  · intro u hu
    simp only [toL, List.mem_map] at hu
    obtain ⟨j, _, rfl⟩ := hu
    rfl
  · intro v' w1 hown' hgrow hnil
    have bel : Below w.heap.size w w1 := ((Below.refl _ _).alloc (Nat.le_refl _) _).grown hgrow (by simp) (fun k e => by simp [Value.ownBlock] at e; omega)
    obtain ⟨vo, vn, vc, rfl⟩ : ∃ vo vn vc, v' = .slice vo vn vc := by
      rcases hown'.2 with ⟨rfl, _⟩ | ⟨g, cap, cur, rfl, _⟩
      · exact ⟨_, _, _, rfl⟩
      · exact ⟨_, _, _, rfl⟩
    have HO := hide hown'
    clear hown' hgrow hnil
    go_wp2
    go_ret
    exact ⟨_, rfl, by have := HO.out; simpa using this, bel⟩
end Go.Proofs.YbulkdzwFmt
