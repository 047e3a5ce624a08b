import Derived.Test.YbulkdzwHeard
namespace Go.Proofs.Ybulkdzw
open Go.RowKit Go.MapKept

def names (k : Nat) : List Value := (List.range k).map fun j => .string (nm j)

/-- What the law's own memory holds when a round begins: the queue's map, the map of what was heard (the first kh names entered), the process, its list of others (the first ko names). -/
structure Inv (w wr : World) (kh ko : Nat) (v : Value) (qes : Array MapEntry) (qc : Nat) (hvo : Nat → Option Value) : Prop where
  ph : wr.heap[w.heap.size + 2]? = some (.cells (procCells v w.heap.size (w.heap.size + 1)) 64 (0, 0))
  qh : wr.heap[w.heap.size]? = some (.map qes qc)
  hh : ∃ hes hc, wr.heap[w.heap.size + 1]? = some (.map hes hc) ∧ ∀ j, j < 1024 → look hes (nm j) = some (if j < kh then hvo j else none)
  own : wr.ownsRow (w.heap.size + 3) 9 1 v ko (names ko)
  bel : Below w.heap.size w wr
  sz : w.heap.size + 3 ≤ wr.heap.size

theorem names_succ (k : Nat) : names (k + 1) = names k ++ [.string (nm k)] := by simp [names, List.range_succ]

section
variable {w wr w1 : World} {kh ko : Nat} {v v' : Value} {qes : Array MapEntry} {qc : Nat} {hvo : Nat → Option Value}

theorem Inv.drew (h : Inv w wr kh ko v qes qc hvo) : Inv w wr.drew kh ko v qes qc hvo := ⟨h.ph, h.qh, h.hh, h.own.drew, h.bel.drew, h.sz⟩

theorem own_block {base e size n : Nat} {xs : List Value} (h : wr.ownsRow base e size v n xs) (i : Nat) (hi : i < base) : some i ≠ v.ownBlock := by
  rcases h.2 with ⟨rfl, _⟩ | ⟨g, cap, cur, rfl, hg, _⟩
  · simp [Value.ownBlock]
  · simp [Value.ownBlock]; omega

/-- Behind 'append': an old block of the call's own (below the list of others) is as it was. -/
theorem Inv.kept (h : Inv w wr kh ko v qes qc hvo) {o : Obj} (hg : (wr.alloc o).grownBy w1 v.ownBlock) (i : Nat) (hi : i < w.heap.size + 3) : w1.heap[i]? = wr.heap[i]? := by
  have := h.sz
  rw [hg.block i (by simp; omega) (own_block h.own i hi)]
  exact Below.heap_alloc _ _ _ (by omega)

theorem Inv.after (h : Inv w wr kh ko v qes qc hvo) {o : Obj} (hg : (wr.alloc o).grownBy w1 v.ownBlock) : w1.cell? ⟨w.heap.size + 1 + 1, 3, none⟩ = some v ∧ w1.frozen? ⟨w.heap.size + 1 + 1, 3, none⟩ = false := by
  have e := (h.kept hg (w.heap.size + 2) (by omega)).trans h.ph
  exact ⟨by simp [World.cell?, e, procCells], by simp [World.frozen?, e]⟩

theorem Inv.heardCell (h : Inv w wr kh ko v qes qc hvo) : wr.cell? ⟨w.heap.size + 1 + 1, 7, none⟩ = some (.map (some (w.heap.size + 1))) := by
  simp [World.cell?, h.ph, procCells]

/-- Behind 'p.others = append(p.others, n)'. -/
theorem Inv.pushed (h : Inv w wr kh ko v qes qc hvo) {o : Obj} (hg : (wr.alloc o).grownBy w1 v.ownBlock) (ho : w1.ownsRow (w.heap.size + 3) 9 1 v' (ko + 1) (names ko ++ [.string (nm ko)])) :
    Inv w (w1.setCell ⟨w.heap.size + 2, 3, none⟩ v') kh (ko + 1) v' qes qc hvo := by
  have hsz := h.sz
  have hs1 : wr.heap.size + 1 ≤ w1.heap.size := by have := hg.size; simpa using this
  obtain ⟨hes, hc, hhb, hhl⟩ := h.hh
  refine ⟨?_, ?_, ⟨hes, hc, ?_, hhl⟩, ?_, ?_, ?_⟩
  · have e := (h.kept hg (w.heap.size + 2) (by omega)).trans h.ph
    have hlt := (Array.getElem?_eq_some_iff.1 e).1
    simp only [World.setCell, Array.getElem?_modify, if_true, e]
    simp [procCells]
  · rw [Below.heap_setCell _ _ _ _ (by simp)]; exact (h.kept hg _ (by omega)).trans h.qh
  · rw [Below.heap_setCell _ _ _ _ (by simp)]; exact (h.kept hg _ (by omega)).trans hhb
  · rw [names_succ]; exact ownsRow_setCell_below ho (by simp) _
  · refine Below.setCell ?_ (by simp) _
    exact (h.bel.alloc (by omega) o).grown hg (by simp; omega) (fun k e => by
      rcases h.own.2 with ⟨rfl, _⟩ | ⟨g, cap, cur, rfl, hgb, _⟩
      · simp [Value.ownBlock] at e
      · simp [Value.ownBlock] at e; omega)
  · simp [World.setCell]; omega

/-- Behind 'p.heard[n] = ..'. -/
theorem Inv.put (h : Inv w wr kh ko v qes qc hvo) {x : Value} (hk : kh < 1024) (hx : hvo kh = some x) : ∃ w', (Instr.mapUpdate 47 (.map (some (w.heap.size + 1))) (.string (nm kh)) x).run Yba.prog wr = .ok () w' ∧ Inv w w' (kh + 1) ko v qes qc hvo := by
  obtain ⟨hes, hc, hhb, hhl⟩ := h.hh
  have hsz := h.sz
  have hn : look hes (nm kh) = some none := by rw [hhl kh hk, if_neg (by omega)]
  have hoth : ∀ (o : Obj) (i : Nat), i ≠ w.heap.size + 1 → (wr.heap.setIfInBounds (w.heap.size + 1) o)[i]? = wr.heap[i]? := fun o i hi => (heap_set hhb).2 i hi
  refine ⟨_, run_put Yba.underlying47 Yba.underlying9 hhb hn, ?_, ?_, ⟨_, _, (heap_set hhb).1, ?_⟩, ?_, ?_, ?_⟩
  · exact (hoth _ _ (by omega)).trans h.ph
  · exact (hoth _ _ (by omega)).trans h.qh
  · intro j hj
    rw [look_push (hhl j hj) hn]
    by_cases e : j = kh
    · subst e; simp [hx]
    · rw [if_neg (fun q => e (nm_inj j kh hj hk q))]
      by_cases hjk : j < kh
      · rw [if_pos hjk, if_pos (by omega)]
      · rw [if_neg hjk, if_neg (by omega)]
  · obtain ⟨o1, o2⟩ := h.own
    refine ⟨o1, ?_⟩
    rcases o2 with o2 | ⟨g, cap, cur, hv, hg, hb, r⟩
    · exact .inl o2
    · exact .inr ⟨g, cap, cur, hv, hg, (hoth _ _ (by omega)).trans hb, r⟩
  · exact h.bel.trans ⟨rfl, rfl, rfl, by simp, fun i hi => hoth _ i (by omega)⟩
  · simpa using hsz

/-- A name that is passed over. -/
theorem Inv.skip (h : Inv w wr kh ko v qes qc hvo) (hx : hvo kh = none) : Inv w wr (kh + 1) ko v qes qc hvo := by
  obtain ⟨hes, hc, hhb, hhl⟩ := h.hh
  refine ⟨h.ph, h.qh, ⟨hes, hc, hhb, fun j hj => ?_⟩, h.own, h.bel, h.sz⟩
  rw [hhl j hj]
  by_cases e : j = kh
  · subst e; simp [hx]
  · by_cases hjk : j < kh
    · rw [if_pos hjk, if_pos (by omega)]
    · rw [if_neg hjk, if_neg (by omega)]

end

theorem own_shape {w : World} {base e size n : Nat} {v : Value} {xs : List Value} (h : w.ownsRow base e size v (n + 1) xs) : ∃ g cap, v = .slice (some ⟨g, 0, none⟩) (n + 1) cap := by
  rcases h.2 with ⟨_, h⟩ | ⟨g, cap, cur, hv, _⟩
  · omega
  · exact ⟨g, cap, hv⟩

theorem wpList_append_one {P : Program} (w : World) {ops : Array Oper} {rest : List Oper} {o : Oper} {a : Act} {Q : Exit → Act → World → Prop} (hgd : o.guard = none) (s x : Operand) (t : TypeId)
    (ho : o.op = .call { callee := .builtin .append, args := #[s, x], argTypes := #[t, t] })
    (base : Nat) (e : TypeId) (i : TypeInfo) (z : Value) (size bytes : Nat) (ht : P.underlying t = some (.slice e)) (hi : P.info? e = some i) (hz : i.zero = some z)
    (hsize : i.size = size) (hby : i.bytes = bytes) (hzs : z.cells.size = size) (hsz : 0 < size)
    (v : Value) (n : Nat) (xs : List Value) (hs : a.eval s = v) (hown : w.ownsRow base e size v n xs)
    (ad : Addr) (c : Nat) (news : List Value) (hx : a.eval x = .slice (some ad) 1 c) (hl : news.length = 1 * size) (hnews : ∀ j u, news[j]? = some u → w.cell? (ad.add j) = some u) (h1 : ∀ u ∈ news, u.oneCell' = true)
    (h63 : n + 1 ≤ maxLen) (hbytes : (n + 1) * bytes ≤ 140737488355328) (hbase : base ≤ w.heap.size)
    (h : ∀ g cp w', w'.ownsRow base e size (.slice (some ⟨g, 0, none⟩) (n + 1) cp) (n + 1) (xs ++ news) → w.grownBy w' v.ownBlock → wpList P ops Q rest (a.put o.dst (.slice (some ⟨g, 0, none⟩) (n + 1) cp)) w') : wpList P ops Q (o :: rest) a w := by
  refine wpList_append_own w hgd s x t ho base e i z size bytes ht hi hz hsize hby hzs hsz v n xs hs hown ad 1 c news hx hl hnews h1 h63 hbytes hbase ?_
  intro v' w' h2 h3 _
  obtain ⟨g, cap, rfl⟩ := own_shape h2
  exact h g cap w' h2 h3

/-- The law's memory when it is laid. -/
theorem inv_start (w : World) (hvo : Nat → Option Value) : Inv w (((w.alloc (.map #[] 0)).alloc (.map #[] 0)).alloc (.cells (procCells (.slice none 0 0) w.heap.size (w.heap.size + 1)) 64 (0, 0))) 0 0 (.slice none 0 0) #[] 0 hvo := by
  refine ⟨?_, ?_, ⟨#[], 0, ?_, ?_⟩, ?_, ?_, ?_⟩
  · have := (MapKept.heap_alloc ((w.alloc (.map #[] 0)).alloc (.map #[] 0)) (.cells (procCells (.slice none 0 0) w.heap.size (w.heap.size + 1)) 64 (0, 0))).1
    simpa using this
  · rw [Below.heap_alloc _ _ _ (by simp; omega), Below.heap_alloc _ _ _ (by simp)]; exact (MapKept.heap_alloc w _).1
  · rw [Below.heap_alloc _ _ _ (by simp)]; have := (MapKept.heap_alloc (w.alloc (.map #[] 0)) (.map #[] 0)).1; simpa using this
  · intro j _; rw [look_nil]; simp
  · exact World.ownsRow_nil _ _ _ _
  · exact (((Below.refl _ _).alloc (Nat.le_refl _) _).alloc (by simp) _).alloc (by simp; omega) _
  · simp

/-- .. with the process's own request entered. -/
theorem inv_self {w wr : World} {hvo : Nat → Option Value} (h : Inv w wr 0 0 (.slice none 0 0) #[] 0 hvo) (x : Value) :
    ∃ w' qes qc, (Instr.mapUpdate 46 (.map (some w.heap.size)) (.string { data := #[115, 101, 108, 102] }) x).run Yba.prog wr = .ok () w' ∧ look qes self = some (some x) ∧ Inv w w' 0 0 (.slice none 0 0) qes qc hvo := by
  have hn : look #[] self = some none := rfl
  have hsz := h.sz
  obtain ⟨hes, hc, hhb, hhl⟩ := h.hh
  have hoth : ∀ (o : Obj) (i : Nat), i ≠ w.heap.size → (wr.heap.setIfInBounds w.heap.size o)[i]? = wr.heap[i]? := fun o i hi => (heap_set h.qh).2 i hi
  refine ⟨_, _, _, run_put (s := self) Yba.underlying46 Yba.underlying9 h.qh hn, ?_, ?_, (heap_set h.qh).1, ⟨hes, hc, (hoth _ _ (by omega)).trans hhb, hhl⟩, World.ownsRow_nil _ _ _ _, ?_, ?_⟩
  · rw [look_push hn hn]; simp
  · exact (hoth _ _ (by omega)).trans h.ph
  · exact h.bel.trans ⟨rfl, rfl, rfl, by simp, fun i hi => hoth _ i (by omega)⟩
  · simpa using hsz
end Go.Proofs.Ybulkdzw
