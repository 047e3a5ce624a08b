import Derived.Test.YbulkecaShrink
set_option linter.unusedVariables false
namespace Go.Proofs.Ybulkeca
open Go.RowKit

theorem store64_at (b o : Nat) (x y : Int) (w : World) (hc : w.cell? ⟨b, o, none⟩ = some (.int .i64 x)) (hz : w.frozen? ⟨b, o, none⟩ = false) :
    Calls Yba.prog 5 #[.pointer (some ⟨b, o, none⟩), .int .i64 y] w fun e w' => e = .returned (.tuple #[]) ∧ w' = w.setCell ⟨b, o, none⟩ (.int .i64 y) := by
  have hl := run_call_store (P := Yba.prog) Yba.func18 (by kernel_rfl) (by kernel_rfl) (by kernel_rfl) (by kernel_rfl) (k := .i64) (y := y) hc hz
  go_enter Yba.func5, Yba.ntmps5
  go_wp2
  go_end0
  exact ⟨rfl, rfl⟩

/-- 'make', the world behind it told exactly. -/
theorem wpList_make_at {P : Program} {w : World} {ops : Array Oper} {rest : List Oper} {o : Oper} {a : Act} {Q : Exit → Act → World → Prop}
    (hg : o.guard = none) (l c : Operand) (t : TypeId) (hop : o.op = Op.makeSlice t l c)
    (e : TypeId) (i : TypeInfo) (z : Value) (h1 : P.underlying t = some (.slice e)) (h2 : P.info? e = some i) (h3 : i.zero = some z)
    (kl kc : IntKind) (L C : Int) (m n : Nat) (hl : a.eval l = .int kl L) (hc : a.eval c = .int kc C) (hL : L = (m : Int)) (hC : C = (n : Int)) (hmn : m ≤ n) (b2 : i.bytes * n ≤ 281474976710656) (b3 : n ≤ 1000000)
    (hK : ∀ w', Hid (w' = w.alloc (.cells (madeCells z.cells (n * i.size)) e)) → wpList P ops Q rest (a.put o.dst (.slice (some ⟨w.heap.size, 0, none⟩) m n)) w') :
    wpList P ops Q (o :: rest) a w := by
  refine wpList_plain hg fun K hK' => ?_
  subst hL
  subst hC
  have hb' : (i.bytes : Int) * (n : Int) ≤ 281474976710656 := by
    have h : ((i.bytes * n : Nat) : Int) ≤ 281474976710656 := by omega
    rwa [Int.natCast_mul] at h
  have hrun := run_make (P := P) w t e i z h1 h2 h3 kl kc m n (by omega) (by omega) hb' (by omega)
  simp only [Int.toNat_natCast] at hrun
  unfold Oper.wp
  simp [execOp, hop, hl, hc, hrun, Result.andThen]
  exact hK' _ _ (hK _ (show _ = _ from rfl))

theorem toArr (a : List Value) (Z : Array Value) : (a ++ Z.toList).toArray = a.toArray ++ Z := by
  apply Array.ext'
  simp

/-- 'append(nil, s...)', the world behind it told. -/
theorem wpList_append_nil_at {w : World} {ops : Array Oper} {rest : List Oper} {o : Oper} {a : Act} {Q : Exit → Act → World → Prop} (hgd : o.guard = none) (s x : Operand)
    (ho : o.op = .call { callee := .builtin .append, args := #[s, x], argTypes := #[69, 69] }) (hs : a.eval s = .slice none 0 0)
    (ad : Addr) (n c : Nat) (news : List Value) (hx : a.eval x = .slice (some ad) n c) (hl : news.length = n) (hnews : ∀ j u, news[j]? = some u → w.cell? (ad.add j) = some u) (hn : n ≤ 1000)
    (h : ∀ v' w', Hid ((n = 0 ∧ v' = .slice none 0 0 ∧ w' = w) ∨ (0 < n ∧ ∃ cc, ∃ L : List Value, v' = .slice (some ⟨w.heap.size, 0, none⟩) n cc ∧ n ≤ cc ∧ cc ≤ maxLen ∧ L.length = cc ∧ L.take n = news ∧ w' = w.drew.alloc (.cells L.toArray 72))) → wpList Yba.prog ops Q rest (a.put o.dst v') w') :
    wpList Yba.prog ops Q (o :: rest) a w := by
  obtain ⟨i72, hi, hz, hsz, hby⟩ := info_parts info72
  refine wpList_plain hgd fun K hK => ?_
  by_cases h0 : n = 0
  · subst h0
    have hrun : (Builtin.append_ #[69, 69] o.type #[.slice none 0 0, .slice (some ad) 0 c]).run Yba.prog w = .ok (.slice none 0 0) w := by
      simp [Builtin.append_, run_underlying Yba.underlying69, sizeOf, typeInfo, hi, Builtin.lenOf, Builtin.firstCells, loadCells, loadCellsFrom]
    unfold Oper.wp execOp
    simp only [ho, resolve, invoke, builtin, Sem.run_bind, Sem.run_pure, Result.andThen_ok, List.map_toArray, List.map_cons, List.map_nil, hs, hx, hrun]
    exact hK _ _ (h _ _ (.inl ⟨rfl, rfl, rfl⟩))
  · have hrun := run_append_nil (P := Yba.prog) w 69 o.type 72 i72 (.pointer none) Yba.underlying69 hi hz ad n c news (by rw [hsz]; omega) hnews (by omega) (by omega) (by rw [hby]; omega)
    have hge := grownCap_ge w n 0 72
    unfold Oper.wp execOp
    simp only [ho, resolve, invoke, builtin, Sem.run_bind, Sem.run_pure, Result.andThen_ok, List.map_toArray, List.map_cons, List.map_nil, hs, hx, hrun]
    refine hK _ _ (h _ _ (.inr ⟨by omega, grownCap w n 0 72, news ++ (Builtin.zeroCells (Value.pointer none).cells (grownCap w n 0 72 - n)).toList, rfl, hge, grownCap_le_maxLen w n 0 72 (by unfold maxLen; omega), ?_, ?_, ?_⟩))
    · have : (Value.pointer none).cells.size = 1 := rfl
      simp [size_zeroCells, this]; omega
    · rw [← hl]; exact List.take_left
    · have e : (news ++ (Builtin.zeroCells (Value.pointer none).cells (grownCap w n 0 72 - n)).toList).toArray = news.toArray ++ Builtin.zeroCells (Value.pointer none).cells (grownCap w n 0 72 - n) := by
        exact toArr _ _
      rw [e]
end Go.Proofs.Ybulkeca
