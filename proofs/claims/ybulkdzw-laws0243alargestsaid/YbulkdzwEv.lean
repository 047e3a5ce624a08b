import Derived.Test.YbulkdzwSteps
set_option linter.unusedVariables false
namespace Go.Proofs.Ybulkdzw
open Go.RowKit

theorem Yba.info33 : (Yba.prog.info? 33).map (fun i => (i.zero, i.size, i.bytes)) = some (some (.agg #[.string { data := #[] }, .int .u64 0, .slice none 0 0, .string { data := #[] }, .int .i64 0, .string { data := #[] }]), 6, 88) := by kernel_rfl
theorem Yba.info31 : (Yba.prog.info? 31).map (fun i => (i.zero, i.size, i.bytes)) = some (some (.agg #[.string { data := #[] }, .int .u64 0]), 2, 24) := by kernel_rfl
theorem Yba.info3 : (Yba.prog.info? 3).map (fun i => (i.zero, i.size, i.bytes)) = some (some (.int .i64 0), 1, 8) := by kernel_rfl

theorem hide {p : Prop} (h : p) : Hid p := h

/-- The events that the law has laid: the first i of them bear their clocks. -/
structure Ev (w wr : World) (N i : Nat) (cx : Nat → Nat → Int) : Prop where
  ev : ∃ (cur : Array Value) (cv : Nat → Value), wr.heap[w.heap.size]? = some (.cells cur 33 (0, 0)) ∧ cur.size = N * 6 ∧ ∀ j, j < i → cur[j * 6 + 2]? = some (cv j) ∧ Clk wr (w.heap.size + 1) (cx j) 4 (cv j)
  bel : Below w.heap.size w wr
  sz : w.heap.size + 1 ≤ wr.heap.size

theorem ev_start {w w' : World} {N : Nat} {cx : Nat → Nat → Int} {xs : List Value} (h : w'.ownsRow w.heap.size 33 6 (.slice (some ⟨w.heap.size, 0, none⟩) N N) N xs) (hg : w.grownBy w' none) : Ev w w' N 0 cx := by
  rcases h.2 with ⟨h, _⟩ | ⟨g, cap, cur, hv, hb, hh, _, _, hs, _⟩
  · simp at h
  · simp only [Value.slice.injEq, Option.some.injEq, Addr.mk.injEq] at hv
    obtain ⟨⟨rfl, _⟩, _, rfl⟩ := hv
    refine ⟨⟨cur, fun _ => .slice none 0 0, hh, hs, fun j hj => absurd hj (Nat.not_lt_zero _)⟩, (Below.refl _ _).grown hg (Nat.le_refl _) (fun k e => by cases e), ?_⟩
    have := (Array.getElem?_eq_some_iff.1 hh).1
    omega

theorem Clk.zero {w : World} {b q : Nat} {cx : Nat → Int} {v : Value} (h : Clk w b cx q v) (hz : cx q = 0) : Clk w b cx (q + 1) v := by
  unfold Clk at h ⊢
  rw [ents_succ, if_pos hz, List.append_nil]
  exact h

theorem Clk.push {w' : World} {b q : Nat} {cx : Nat → Int} {v' : Value} (h : w'.ownsRow b 31 2 v' ((ents cx q).length + 1) (entCells (ents cx q) ++ [.string (hn q), .int .u64 (cx q)])) (hz : cx q ≠ 0) : Clk w' b cx (q + 1) v' := by
  unfold Clk
  rw [ents_succ, if_neg hz]
  simpa [entCells] using h

theorem Clk.shape {w : World} {b q : Nat} {cx : Nat → Int} {v : Value} (h : Clk w b cx q v) : ∃ ao ln cp, v = .slice ao ln cp := by
  rcases h.2 with ⟨rfl, _⟩ | ⟨g, cap, cur, rfl, _⟩
  · exact ⟨_, _, _, rfl⟩
  · exact ⟨_, _, _, rfl⟩

theorem clk_below {wo wr w2 : World} {o : Obj} {q : Nat} {cx : Nat → Int} {v : Value} (hb : Below wo.heap.size wo wr) (hc : Clk wr wo.heap.size cx q v) (hg : ((wr.alloc o).drew).grownBy w2 v.ownBlock) : Below wo.heap.size wo w2 := by
  refine ((hb.alloc hb.size o).drew).grown hg (by have := hb.size; simp; omega) (fun k e => ?_)
  rcases hc.2 with ⟨rfl, _⟩ | ⟨g, cap, cur, rfl, hg, _⟩
  · simp [Value.ownBlock] at e
  · simp [Value.ownBlock] at e; omega

theorem two_cells (w : World) (u v : Value) (t : TypeId) : ∀ j x, [u, v][j]? = some x → ((w.alloc (.cells #[u, v] t)).drew).cell? ((⟨w.heap.size, 0, none⟩ : Addr).add j) = some x := by
  intro j x h
  match j, h with
  | 0, h => simp at h; subst h; simp [Addr.add]
  | 1, h => simp at h; subst h; simp [Addr.add]

/-- A store into a block of cells. -/
theorem heap_store {w : World} {b o : Nat} {cur : Array Value} {e : TypeId} {fz : Nat × Nat} (h : w.heap[b]? = some (.cells cur e fz)) (x : Value) : (w.setCell ⟨b, o, none⟩ x).heap[b]? = some (.cells (cur.setIfInBounds o x) e fz) := by
  simp only [World.setCell, Array.getElem?_modify, if_true, h]
  rfl

theorem Ev.store {w wo wr : World} {N i : Nat} {cx : Nat → Nat → Int} {v x0 x1 x3 x4 x5 : Value} (h : Ev w wo N i cx) (hi : i < N) (hb : Below wo.heap.size wo wr) (hc : Clk wr wo.heap.size (cx i) 4 v) :
    Ev w ((((((wr.setCell ⟨w.heap.size, i * 6, none⟩ x0).setCell ⟨w.heap.size, i * 6 + 1, none⟩ x1).setCell ⟨w.heap.size, i * 6 + 2, none⟩ v).setCell ⟨w.heap.size, i * 6 + 3, none⟩ x3).setCell ⟨w.heap.size, i * 6 + 4, none⟩ x4).setCell ⟨w.heap.size, i * 6 + 5, none⟩ x5) N (i + 1) cx := by
  obtain ⟨cur, cv, hcur, hcs, hcl⟩ := h.ev
  have hsz := h.sz
  have hcur' := (hb.block w.heap.size (by omega)).trans hcur
  have hoth : ∀ k, k ≠ w.heap.size → ((((((wr.setCell ⟨w.heap.size, i * 6, none⟩ x0).setCell ⟨w.heap.size, i * 6 + 1, none⟩ x1).setCell ⟨w.heap.size, i * 6 + 2, none⟩ v).setCell ⟨w.heap.size, i * 6 + 3, none⟩ x3).setCell ⟨w.heap.size, i * 6 + 4, none⟩ x4).setCell ⟨w.heap.size, i * 6 + 5, none⟩ x5).heap[k]? = wr.heap[k]? := by
    intro k hk
    rw [Below.heap_setCell _ _ _ _ hk, Below.heap_setCell _ _ _ _ hk, Below.heap_setCell _ _ _ _ hk, Below.heap_setCell _ _ _ _ hk, Below.heap_setCell _ _ _ _ hk, Below.heap_setCell _ _ _ _ hk]
  refine ⟨⟨_, fun j => if j = i then v else cv j, heap_store (heap_store (heap_store (heap_store (heap_store (heap_store hcur' x0) x1) v) x3) x4) x5, by simpa using hcs, ?_⟩, ?_, ?_⟩
  · intro j hj
    have hsize : cur.size = N * 6 := hcs
    by_cases e : j = i
    · subst e
      refine ⟨?_, ?_⟩
      · rw [Array.getElem?_setIfInBounds_ne (by omega), Array.getElem?_setIfInBounds_ne (by omega), Array.getElem?_setIfInBounds_ne (by omega), Array.getElem?_setIfInBounds_self_of_lt (by simp; omega)]
        simp
      · simp only [if_true]
        exact (hc.mono (by omega)).kept (fun k hk _ => hoth k (by omega))
    · obtain ⟨c1, c2⟩ := hcl j (by omega)
      refine ⟨?_, ?_⟩
      · rw [Array.getElem?_setIfInBounds_ne (by omega), Array.getElem?_setIfInBounds_ne (by omega), Array.getElem?_setIfInBounds_ne (by omega), Array.getElem?_setIfInBounds_ne (by omega), Array.getElem?_setIfInBounds_ne (by omega), Array.getElem?_setIfInBounds_ne (by omega)]
        simp only [if_neg e]
        exact c1
      · simp only [if_neg e]
        exact (c2.below hb).kept (fun k hk _ => hoth k (by omega))
  · refine (((((((h.bel.trans (hb.mono h.bel.size)).setCell ?_ _).setCell ?_ _).setCell ?_ _).setCell ?_ _).setCell ?_ _).setCell ?_ _) <;> exact Nat.le_refl _
  · simp [World.setCell]; have := hb.size; omega

/-- What the store of the i-th event reads and writes is there. -/
theorem Ev.cells {w wo wr : World} {N i : Nat} {cx : Nat → Nat → Int} (h : Ev w wo N i cx) (hb : Below wo.heap.size wo wr) : (∀ o, wr.frozen? ⟨w.heap.size, o, none⟩ = false) ∧ ∀ o, o < N * 6 → ∃ x, wr.cell? ⟨w.heap.size, o, none⟩ = some x := by
  obtain ⟨cur, cv, hcur, hcs, hcl⟩ := h.ev
  have hsz := h.sz
  have hcur' := (hb.block w.heap.size (by omega)).trans hcur
  refine ⟨fun o => by simp [World.frozen?, hcur'], fun o ho => ⟨cur[o]'(by omega), ?_⟩⟩
  simp [World.cell?, hcur', hcs, ho]

/-- The list of events followed, in block F: the first k of them are laid. -/
structure Fl (wz wr : World) (M k N : Nat) (fo : Nat → Int) : Prop where
  fl : ∃ cur : Array Value, wr.heap[wz.heap.size]? = some (.cells cur 3 (0, 0)) ∧ cur.size = M ∧ ∀ p, p < k → cur[p]? = some (.int .i64 (fo p % (N : Int)))
  bel : Below wz.heap.size wz wr
  sz : wz.heap.size + 1 ≤ wr.heap.size

theorem fl_start {w w' : World} {M N : Nat} {fo : Nat → Int} {xs : List Value} (h : w'.ownsRow w.heap.size 3 1 (.slice (some ⟨w.heap.size, 0, none⟩) M M) M xs) (hg : w.grownBy w' none) : Fl w w' M 0 N fo := by
  rcases h.2 with ⟨h, _⟩ | ⟨g, cap, cur, hv, hb, hh, _, _, hs, _⟩
  · simp at h
  · simp only [Value.slice.injEq, Option.some.injEq, Addr.mk.injEq] at hv
    obtain ⟨⟨rfl, _⟩, _, rfl⟩ := hv
    refine ⟨⟨cur, hh, by omega, fun j hj => absurd hj (Nat.not_lt_zero _)⟩, (Below.refl _ _).grown hg (Nat.le_refl _) (fun k e => by cases e), ?_⟩
    have := (Array.getElem?_eq_some_iff.1 hh).1
    omega

theorem Fl.cells {wz wr : World} {M k N : Nat} {fo : Nat → Int} (h : Fl wz wr M k N fo) (hk : k < M) : wr.frozen? ⟨wz.heap.size, k, none⟩ = false ∧ ∃ x, wr.cell? ⟨wz.heap.size, k, none⟩ = some x := by
  obtain ⟨cur, hcur, hcs, hcl⟩ := h.fl
  refine ⟨by simp [World.frozen?, hcur], ⟨cur[k]'(by omega), ?_⟩⟩
  simp [World.cell?, hcur, hcs, hk]

theorem Fl.store {wz wr : World} {M k N : Nat} {fo : Nat → Int} (h : Fl wz wr M k N fo) (hk : k < M) : Fl wz (wr.setCell ⟨wz.heap.size, k, none⟩ (.int .i64 (fo k % (N : Int)))) M (k + 1) N fo := by
  obtain ⟨cur, hcur, hcs, hcl⟩ := h.fl
  refine ⟨⟨_, heap_store hcur _, by simpa using hcs, ?_⟩, h.bel.setCell (Nat.le_refl _) _, ?_⟩
  · intro p hp
    by_cases e : p = k
    · subst e; rw [Array.getElem?_setIfInBounds_self_of_lt (by omega)]
    · rw [Array.getElem?_setIfInBounds_ne (by omega)]; exact hcl p (by omega)
  · simp [World.setCell]; exact h.sz

/-- The log's memory, out of the events'. -/
theorem Ev.log {w wz w' : World} {N P : Nat} {cx : Nat → Nat → Int} (h : Ev w wz N N cx) (hb : Below wz.heap.size wz w') (hp : w'.cell? ⟨P, 0, none⟩ = some (.slice (some ⟨w.heap.size, 0, none⟩) N N)) (hP : P < w'.heap.size) :
    ∃ cv, LogAt w' P w.heap.size N N (w.heap.size + 1) cx cv := by
  obtain ⟨cur, cv, hcur, hcs, hcl⟩ := h.ev
  have hsz := h.sz
  have hcur' := (hb.block w.heap.size (by omega)).trans hcur
  refine ⟨cv, hp, fun j hj => ?_, fun j hj => ((hcl j hj).2).below hb, hP, by have := hb.size; omega⟩
  simp only [World.cell?, hcur']
  simpa using (hcl j hj).1
end Go.Proofs.Ybulkdzw
