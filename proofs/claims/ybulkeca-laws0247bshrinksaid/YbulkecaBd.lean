import Derived.Test.YbulkecaBLaw
set_option linter.unusedVariables false
namespace Go.Proofs.Ybulkeca
open Go.RowKit

def Sd (k : Nat → Nat) (b0 sh : Nat) (wr : World) (i cc : Nat) : Prop :=
  k i ≤ cc ∧ cc ≤ maxLen ∧ (k i = 0 → cc = 0) ∧ wr.cell? ⟨sh, i * 68 + 3, none⟩ = some (.slice (oi k b0 i) (k i) cc) ∧
    (0 < k i → ∃ L : List Value, wr.heap[ib k b0 i]? = some (.cells L.toArray 72 (0, 0)) ∧ L.length = cc ∧ L.take (k i) = ptrs k b0 i)

structure Ds (H p sh og b0 : Nat) : Prop where
  a : p = H
  b : sh = H + 1
  c : og = H + 2
  d : b0 = H + 3

structure Bd (k : Nat → Nat) (H N p sh og b0 : Nat) (w wr : World) (i : Nat) : Prop where
  size : wr.heap.size = Bs k b0 i
  bel : Below H w wr
  c0 : wr.cell? ⟨p, 0, none⟩ = some (.int .i64 0)
  c7 : wr.cell? ⟨p, 7, none⟩ = some (.slice (some ⟨sh, 0, none⟩) N N)
  c76 : wr.cell? ⟨p, 76, none⟩ = some (.int .i64 0)
  pfz : ∀ o, wr.frozen? ⟨p, o, none⟩ = false
  ix : ∀ i', i' < N → ∃ v, wr.cell? ⟨sh, i' * 68, none⟩ = some (.int .i64 v)
  mu : ∀ i', i' < N → wr.cell? ⟨sh, i' * 68 + 1, none⟩ = some (.int .i32 0)
  sfz : ∀ o, wr.frozen? ⟨sh, o, none⟩ = false
  ogx : ∀ i', i' < N → ∃ v, wr.cell? ⟨og, i', none⟩ = some v
  ogz : ∀ o, wr.frozen? ⟨og, o, none⟩ = false
  og1 : ∀ i', i' < i → wr.cell? ⟨og, i', none⟩ = some (.slice (some ⟨Bs k b0 i', 0, none⟩) (k i') (k i'))
  id0 : ∀ i', i ≤ i' → i' < N → wr.cell? ⟨sh, i' * 68 + 3, none⟩ = some (.slice none 0 0)
  id1 : ∀ i', i' < i → ∃ cc, Sd k b0 sh wr i' cc
  ob : ∀ i' j, i' < i → j < k i' → wr.cell? ⟨Bs k b0 i', j, none⟩ = some (wp k b0 i' j)
  tk : ∀ i' j, i' < i → j < k i' → wr.cell? ⟨ch k b0 i' j + 1, 1, none⟩ = some (.chan (some (ch k b0 i' j)))
  op : ∀ i' j, i' < i → j < k i' → wr.heap[ch k b0 i' j]? = some openCh

structure Wk (k : Nat → Nat) (b0 i : Nat) (wB wr : World) (j : Nat) : Prop where
  size : wr.heap.size = Bs k b0 i + 1 + 3 * j
  same : ∀ b, b < Bs k b0 i → wr.heap[b]? = wB.heap[b]?
  row : ∃ cur : List Value, wr.heap[Bs k b0 i]? = some (.cells cur.toArray 72 (0, 0)) ∧ cur.length = k i ∧ ∀ j', j' < j → cur[j']? = some (wp k b0 i j')
  tk : ∀ j', j' < j → wr.cell? ⟨ch k b0 i j' + 1, 1, none⟩ = some (.chan (some (ch k b0 i j')))
  op : ∀ j', j' < j → wr.heap[ch k b0 i j']? = some openCh
  os : wr.os = wB.os
  tape : wr.tape = wB.tape
  output : wr.output = wB.output

theorem wpList_append_room_at {w : World} {ops : Array Oper} {rest : List Oper} {o : Oper} {a : Act} {Q : Exit → Act → World → Prop} (hgd : o.guard = none) (s x : Operand)
    (ho : o.op = .call { callee := .builtin .append, args := #[s, x], argTypes := #[69, 69] }) (g n cap : Nat) (hs : a.eval s = .slice (some ⟨g, 0, none⟩) n cap)
    (ad : Addr) (m : Nat) (u : Value) (hx : a.eval x = .slice (some ad) 1 m) (hu : w.cell? ad = some u) (h1 : u.oneCell' = true)
    (cur : List Value) (hg : w.heap[g]? = some (.cells cur.toArray 72 (0, 0))) (hl : cur.length = cap) (hn : n < cap)
    (h : ∀ w', Hid (w' = w.setRow g (cur.take n ++ [u] ++ cur.drop (n + 1)).toArray) → wpList Yba.prog ops Q rest (a.put o.dst (.slice (some ⟨g, 0, none⟩) (n + 1) cap)) w') :
    wpList Yba.prog ops Q (o :: rest) a w := by
  obtain ⟨i72, hi, hz, hsz, hby⟩ := info_parts info72
  refine wpList_plain hgd fun K hK => ?_
  have hrun := run_append_room (P := Yba.prog) w 69 o.type 72 i72 Yba.underlying69 hi g n cap cur.toArray hg ad 1 m [u] (by simp [hsz]) (fun j v hj => by
    match j, hj with
    | 0, hj =>
      simp at hj
      subst hj
      simpa [Addr.add] using hu) (by simpa using h1) (by omega) (by simp [hsz]; omega)
  rw [hsz] at hrun
  simp only [Nat.mul_one, List.length_singleton] at hrun
  unfold Oper.wp execOp
  simp only [ho, resolve, invoke, builtin, Sem.run_bind, Sem.run_pure, Result.andThen_ok, List.map_toArray, List.map_cons, List.map_nil, hs, hx, hrun]
  exact hK _ _ (h _ (show _ = _ from rfl))

theorem heap_lt {w : World} {b : Nat} (o : Obj) (h : b < w.heap.size) : (w.alloc o).heap[b]? = w.heap[b]? := Below.heap_alloc _ _ _ h
theorem heap_at (w : World) (o : Obj) : (w.alloc o).heap[w.heap.size]? = some o := heap_alloc_new w o

theorem wk_round {k : Nat → Nat} {b0 i sh j : Nat} {wB wr W : World} (S : Wk k b0 i wB wr j) (hj : j < k i) {cur : List Value} (hcur : wr.heap[Bs k b0 i]? = some (.cells cur.toArray 72 (0, 0))) (vs : Array Value) (hvs : vs[1]? = some (.chan (some (ch k b0 i j))))
    (hW : W = (((wr.alloc openCh).alloc (.cells vs 79)).alloc (.cells #[wp k b0 i j] 72)).setRow (Bs k b0 i) (cur.take j ++ wp k b0 i j :: cur.drop (j + 1)).toArray) :
    Wk k b0 i wB W (j + 1) := by
  obtain ⟨w1, h1⟩ : ∃ w1, w1 = wr.alloc openCh := ⟨_, rfl⟩
  rw [← h1] at hW
  obtain ⟨w2, h2⟩ : ∃ w2, w2 = w1.alloc (.cells vs 79) := ⟨_, rfl⟩
  rw [← h2] at hW
  obtain ⟨w3, h3⟩ : ∃ w3, w3 = w2.alloc (.cells #[wp k b0 i j] 72) := ⟨_, rfl⟩
  rw [← h3] at hW
  have sz := S.size
  have z1 : w1.heap.size = Bs k b0 i + 1 + 3 * j + 1 := by rw [h1]; simp [sz]
  have z2 : w2.heap.size = Bs k b0 i + 1 + 3 * j + 2 := by rw [h2]; simp [z1]
  have z3 : w3.heap.size = Bs k b0 i + 1 + 3 * j + 3 := by rw [h3]; simp [z2]
  have c1 : w1.heap[ch k b0 i j]? = some openCh := by rw [h1, show ch k b0 i j = wr.heap.size from sz.symm]; exact heap_at _ _
  have c2 : w2.heap[ch k b0 i j + 1]? = some (.cells vs 79) := by
    rw [h2, show ch k b0 i j + 1 = w1.heap.size from z1.symm]; exact heap_at _ _
  have old : ∀ b, b < wr.heap.size → w3.heap[b]? = wr.heap[b]? := fun b hb => by
    rw [h3, heap_lt _ (by omega), h2, heap_lt _ (by omega), h1, heap_lt _ hb]
  have oldW : ∀ b, b < wr.heap.size → b ≠ Bs k b0 i → W.heap[b]? = wr.heap[b]? := fun b hb hne => by
    rw [hW, setRow_other _ _ _ _ hne]; exact old b hb
  have hcur3 : w3.heap[Bs k b0 i]? = some (.cells cur.toArray 72 (0, 0)) := (old _ (by omega)).trans hcur
  have hchW : W.heap[ch k b0 i j]? = some openCh := by
    rw [hW, setRow_other _ _ _ _ (by simp only [ch]; omega), h3, heap_lt _ (by simp only [ch]; omega), h2, heap_lt _ (by simp only [ch]; omega)]
    exact c1
  have hwkW : W.heap[ch k b0 i j + 1]? = some (.cells vs 79) := by
    rw [hW, setRow_other _ _ _ _ (by simp only [ch]; omega), h3, heap_lt _ (by simp only [ch]; omega)]
    exact c2
  obtain ⟨cur', r1, r2, r3⟩ := S.row
  obtain rfl : cur' = cur := by
    rw [hcur] at r1
    injection r1 with r1
    injection r1 with r1
    exact (List.toArray_inj r1).symm
  exact {
    size := by rw [hW, size_setRow, z3]; omega
    same := fun b hb => by rw [oldW b (by omega) (by omega)]; exact S.same b hb
    row := by
      refine ⟨cur'.take j ++ wp k b0 i j :: cur'.drop (j + 1), by rw [hW]; exact setRow_heap _ _ _ _ _ _ hcur3, ?_, fun j' hj' => ?_⟩
      · simp; omega
      · by_cases e : j' = j
        · subst e
          rw [List.getElem?_append_right (by simp; omega)]
          simp [show min j' cur'.length = j' by omega]
        · rw [List.getElem?_append_left (by simp; omega), List.getElem?_take, if_pos (by omega)]
          exact r3 j' (by omega)
    tk := fun j' hj' => by
      by_cases e : j' = j
      · subst e; simp [World.cell?, hwkW, hvs]
      · rw [World.cell?_of_block (a := ⟨ch k b0 i j' + 1, 1, none⟩) (oldW _ (by simp only [ch]; omega) (by simp only [ch]; omega))]
        exact S.tk j' (by omega)
    op := fun j' hj' => by
      by_cases e : j' = j
      · subst e; exact hchW
      · rw [oldW _ (by simp only [ch]; omega) (by simp only [ch]; omega)]
        exact S.op j' (by omega)
    os := by rw [hW, setRow_os, h3, h2, h1]; exact S.os
    tape := by rw [hW, setRow_tape, h3, h2, h1]; exact S.tape
    output := by rw [hW, setRow_output, h3, h2, h1]; exact S.output }

theorem wk_start {k : Nat → Nat} {b0 i : Nat} {wA : World} (hs : wA.heap.size = Bs k b0 i) {n : Nat} (hn : n = k i * 1) : Wk k b0 i (wA.alloc (.cells (madeCells (Value.pointer none).cells n) 72)) (wA.alloc (.cells (madeCells (Value.pointer none).cells n) 72)) 0 where
  size := by simp [hs]
  same := fun _ _ => rfl
  row := ⟨(madeCells (Value.pointer none).cells n).toList, by rw [← hs]; simpa using heap_at _ _, by rw [Array.length_toList, size_madeCells]; omega, fun j' h => by omega⟩
  tk := fun j' h => by omega
  op := fun j' h => by omega
  os := rfl
  tape := rfl
  output := rfl

def AppNil (news : List Value) (n : Nat) (w : World) (v' : Value) (w' : World) : Prop :=
  (n = 0 ∧ v' = .slice none 0 0 ∧ w' = w) ∨ (0 < n ∧ ∃ cc, ∃ L : List Value, v' = .slice (some ⟨w.heap.size, 0, none⟩) n cc ∧ n ≤ cc ∧ cc ≤ maxLen ∧ L.length = cc ∧ L.take n = news ∧ w' = w.drew.alloc (.cells L.toArray 72))

section
variable {k : Nat → Nat} {H N p sh og b0 i : Nat} {w wr wA wB wC wD wE wF : World} {v' : Value}

theorem Bd.lo (D : Ds H p sh og b0) (k : Nat → Nat) (i : Nat) : H + 3 ≤ Bs k b0 i := by
  have := Bs_mono k b0 (Nat.zero_le i)
  have e : Bs k b0 0 = b0 := rfl
  have := D.d
  omega

theorem bd_mid (D : Ds H p sh og b0) (S : Bd k H N p sh og b0 w wr i) (hi : i < N) {vi : Value} (hA : wA = wr.setCell ⟨sh, i * 68, none⟩ vi) {o1 : Obj} (hB : wB = wA.alloc o1) (K : Wk k b0 i wB wC (k i)) :
    (∃ v, wC.cell? ⟨og, i, none⟩ = some v) ∧ wC.frozen? ⟨og, i, none⟩ = false ∧ wC.heap.size = ib k b0 i := by
  have lo := Bd.lo D k i
  obtain ⟨d1, d2, d3, d4⟩ := D
  have sz := S.size
  have zA : wA.heap.size = wr.heap.size := by rw [hA]; exact (Only.setCell sh _ wr _).size
  have e : wC.heap[og]? = wr.heap[og]? := by
    rw [K.same og (by omega), hB, heap_lt _ (by omega), hA]
    exact (Only.setCell sh _ wr _).other og (by omega)
  obtain ⟨v, hv⟩ := S.ogx i hi
  exact ⟨⟨v, (World.cell?_of_block (a := ⟨og, i, none⟩) e).trans hv⟩, (World.frozen?_of_block (a := ⟨og, i, none⟩) e).trans (S.ogz i), K.size⟩

theorem bd_ptrs (D : Ds H p sh og b0) (K : Wk k b0 i wB wC (k i)) {vo : Value} (hD : wD = wC.setCell ⟨og, i, none⟩ vo) : ∀ j u, (ptrs k b0 i)[j]? = some u → wD.cell? ((⟨Bs k b0 i, 0, none⟩ : Addr).add j) = some u := by
  intro j u hj
  have lo := Bd.lo D k i
  obtain ⟨d1, d2, d3, d4⟩ := D
  have hjk : j < k i := by
    have := (List.getElem?_eq_some_iff.1 hj).1
    rw [ptrs_length] at this
    exact this
  obtain ⟨cur, r1, r2, r3⟩ := K.row
  have e : wD.heap[Bs k b0 i]? = some (.cells cur.toArray 72 (0, 0)) := by
    rw [hD, (Only.setCell og i wC vo).other _ (by omega)]; exact r1
  have hu : u = wp k b0 i j := by
    simp only [ptrs, List.getElem?_map, List.getElem?_range hjk, Option.map_some, Option.some.injEq] at hj
    exact hj.symm
  have h3 := r3 j hjk
  simp only [Addr.add]
  split
  · next h0 => subst h0; simp [World.cell?, e, h3, hu]
  · simp [World.cell?, e, h3, hu]

theorem bd_idle (D : Ds H p sh og b0) (S : Bd k H N p sh og b0 w wr i) (hi : i < N) {vi : Value} (hA : wA = wr.setCell ⟨sh, i * 68, none⟩ vi) {o1 : Obj} (hB : wB = wA.alloc o1) (K : Wk k b0 i wB wC (k i))
    {vo : Value} (hD : wD = wC.setCell ⟨og, i, none⟩ vo) (hE : AppNil (ptrs k b0 i) (k i) wD v' wE) :
    (∀ b, b < Bs k b0 i → b ≠ og → wE.heap[b]? = wA.heap[b]?) ∧ wE.heap.size = Bs k b0 (i + 1) ∧ (∀ b, b < ib k b0 i → b ≠ og → wE.heap[b]? = wC.heap[b]?) ∧ wE.heap[og]? = wD.heap[og]? ∧ Below H w wE := by
  have lo := Bd.lo D k i
  obtain ⟨d1, d2, d3, d4⟩ := D
  have sz := S.size
  have OA := Only.setCell sh (i * 68) wr vi
  have OD := Only.setCell og i wC vo
  rw [← hA] at OA
  rw [← hD] at OD
  have zC := K.size
  have hsz : Bs k b0 (i + 1) = Bs k b0 i + 1 + 3 * k i + min 1 (k i) := rfl
  have old : ∀ b, b < wD.heap.size → wE.heap[b]? = wD.heap[b]? := by
    rcases hE with ⟨_, _, e⟩ | ⟨_, cc, L, _, _, _, _, _, e⟩
    · intro b _; rw [e]
    · intro b hb; rw [e]; exact heap_lt (w := wD.drew) _ hb
  have bD : wE.os = wD.os ∧ wE.tape = wD.tape ∧ wE.output = wD.output := by
    rcases hE with ⟨_, _, e⟩ | ⟨_, cc, L, _, _, _, _, _, e⟩
    · rw [e]; exact ⟨rfl, rfl, rfl⟩
    · rw [e]; exact ⟨rfl, rfl, rfl⟩
  have zE : wE.heap.size = Bs k b0 (i + 1) := by
    rcases hE with ⟨h0, _, e⟩ | ⟨h0, cc, L, _, _, _, _, _, e⟩
    · rw [e, OD.size, zC, hsz]; omega
    · rw [e]; simp [OD.size, zC, hsz]; omega
  have hAb : ∀ b, b < Bs k b0 i → b ≠ og → wE.heap[b]? = wA.heap[b]? := fun b hb hne => by
    rw [old b (by rw [OD.size, zC]; omega), OD.other b hne, K.same b hb, hB]
    exact heap_lt _ (by rw [OA.size, sz]; exact hb)
  refine ⟨hAb, zE, fun b hb hne => ?_, old og (by rw [OD.size, zC]; omega), ?_⟩
  · rw [old b (by rw [OD.size, zC]; exact hb), OD.other b hne]
  · refine S.bel.trans ⟨?_, ?_, ?_, ?_, fun b hb => ?_⟩
    · rw [bD.1, OD.os, K.os, hB]; exact OA.os
    · rw [bD.2.1, OD.tape, K.tape, hB]; exact OA.tape
    · rw [bD.2.2, OD.output, K.output, hB]; exact OA.output
    · rw [zE, sz]; exact Bs_mono k b0 (Nat.le_succ i)
    · rw [hAb b (by omega) (by omega)]; exact OA.other b (by omega)

theorem bd_round (D : Ds H p sh og b0) (S : Bd k H N p sh og b0 w wr i) (hi : i < N) (hA : wA = wr.setCell ⟨sh, i * 68, none⟩ (.int .i64 i)) {o1 : Obj} (hB : wB = wA.alloc o1) (K : Wk k b0 i wB wC (k i))
    (hD : wD = wC.setCell ⟨og, i, none⟩ (.slice (some ⟨Bs k b0 i, 0, none⟩) (k i) (k i))) (hE : AppNil (ptrs k b0 i) (k i) wD v' wE) (hF : wF = wE.setCell ⟨sh, i * 68 + 3, none⟩ v') :
    Bd k H N p sh og b0 w wF (i + 1) := by
  have I := bd_idle D S hi hA hB K hD hE
  obtain ⟨ov, hov⟩ := (bd_mid D S hi hA hB K).1
  have hP := bd_ptrs D K hD
  have lo := Bd.lo D k i
  obtain ⟨d1, d2, d3, d4⟩ := D
  obtain ⟨i1, i2, i3, i4, i5⟩ := I
  have OA := Only.setCell sh (i * 68) wr (.int .i64 i)
  rw [← hA] at OA
  have OF := Only.setCell sh (i * 68 + 3) wE v'
  rw [← hF] at OF
  have OD := Only.setCell og i wC (.slice (some ⟨Bs k b0 i, 0, none⟩) (k i) (k i))
  rw [← hD] at OD
  have sz := S.size
  have zC := K.size
  have sm : ∀ b, b < Bs k b0 i → b ≠ og → b ≠ sh → wF.heap[b]? = wr.heap[b]? := fun b h1 h2 h3 => by
    rw [OF.other b h3, i1 b h1 h2, OA.other b h3]
  have smC : ∀ b, Bs k b0 i ≤ b → b < ib k b0 i → wF.heap[b]? = wC.heap[b]? := fun b h1 h2 => by
    rw [OF.other b (by omega), i3 b h2 (by omega)]
  have hEA : ∀ o, wE.cell? ⟨sh, o, none⟩ = wA.cell? ⟨sh, o, none⟩ := fun o => World.cell?_of_block (a := ⟨sh, o, none⟩) (i1 sh (by omega) (by omega))
  have hid : wE.cell? ⟨sh, i * 68 + 3, none⟩ = some (.slice none 0 0) := by
    rw [hEA, hA]; exact cell_setCell (S.id0 i (Nat.le_refl _) hi) (by omega)
  have hsh : ∀ o v, o ≠ i * 68 + 3 → o ≠ i * 68 → wr.cell? ⟨sh, o, none⟩ = some v → wF.cell? ⟨sh, o, none⟩ = some v := fun o v h1 h2 h3 => by
    rw [hF]
    refine cell_setCell ?_ (by omega)
    rw [hEA, hA]
    exact cell_setCell h3 (by omega)
  have hog : wF.heap[og]? = wD.heap[og]? := by rw [OF.other og (by omega)]; exact i4
  have hogC : wC.heap[og]? = wr.heap[og]? := by
    rw [K.same og (by omega), hB, heap_lt _ (by rw [OA.size]; omega)]
    exact OA.other og (by omega)
  have hibm : ∀ i', i' < i → Bs k b0 (i' + 1) ≤ Bs k b0 i := fun i' h => Bs_mono k b0 h
  have pc : ∀ o, wF.cell? ⟨p, o, none⟩ = wr.cell? ⟨p, o, none⟩ := fun o => World.cell?_of_block (a := ⟨p, o, none⟩) (sm p (by omega) (by omega) (by omega))
  have ranges : ∀ i' j, i' < i → j < k i' → ch k b0 i' j + 1 < Bs k b0 i ∧ H + 3 < ch k b0 i' j := fun i' j h1 h2 => by
    have := ch_lt k b0 h2
    have := hibm i' h1
    have := Bs_mono k b0 (Nat.zero_le i')
    have e : Bs k b0 0 = b0 := rfl
    omega
  exact {
    size := by rw [OF.size]; exact i2
    bel := i5.trans (OF.below (by omega))
    c0 := (pc 0).trans S.c0
    c7 := (pc 7).trans S.c7
    c76 := (pc 76).trans S.c76
    pfz := fun o => (World.frozen?_of_block (a := ⟨p, o, none⟩) (sm p (by omega) (by omega) (by omega))).trans (S.pfz o)
    ix := fun i' hi' => by
      obtain ⟨v, hv⟩ := S.ix i' hi'
      by_cases e : i' = i
      · subst e
        refine ⟨i', ?_⟩
        rw [hF]
        refine cell_setCell ?_ (by omega)
        rw [hEA, hA]
        exact World.cell?_setCell_same wr ⟨sh, i' * 68, none⟩ _ hv
      · exact ⟨v, hsh _ _ (by omega) (by omega) hv⟩
    mu := fun i' hi' => hsh _ _ (by omega) (by omega) (S.mu i' hi')
    sfz := fun o => by
      rw [hF, World.frozen?_setCell, World.frozen?_of_block (a := ⟨sh, o, none⟩) (i1 sh (by omega) (by omega)), hA, World.frozen?_setCell]
      exact S.sfz o
    ogx := fun i' hi' => by
      obtain ⟨v, hv⟩ := S.ogx i' hi'
      rw [World.cell?_of_block (a := ⟨og, i', none⟩) hog]
      by_cases e : i' = i
      · subst e
        exact ⟨_, by rw [hD]; exact World.cell?_setCell_same wC ⟨og, i', none⟩ _ hov⟩
      · refine ⟨v, ?_⟩
        rw [hD]
        exact cell_setCell ((World.cell?_of_block (a := ⟨og, i', none⟩) hogC).trans hv) (by omega)
    ogz := fun o => by
      rw [World.frozen?_of_block (a := ⟨og, o, none⟩) hog, hD, World.frozen?_setCell, World.frozen?_of_block (a := ⟨og, o, none⟩) hogC]
      exact S.ogz o
    og1 := fun i' hi' => by
      rw [World.cell?_of_block (a := ⟨og, i', none⟩) hog]
      by_cases e : i' = i
      · subst e
        rw [hD]; exact World.cell?_setCell_same wC ⟨og, i', none⟩ _ hov
      · rw [hD]
        exact cell_setCell ((World.cell?_of_block (a := ⟨og, i', none⟩) hogC).trans (S.og1 i' (by omega))) (by omega)
    id0 := fun i' h1 h2 => hsh _ _ (by omega) (by omega) (S.id0 i' (by omega) h2)
    id1 := fun i' hi' => by
      by_cases e : i' = i
      · subst e
        rcases hE with ⟨h0, hv, e⟩ | ⟨h0, cc, L, hv, q1, q2, q3, q4, e⟩
        · refine ⟨0, by omega, Nat.zero_le _, fun _ => rfl, ?_, fun h => by omega⟩
          rw [hF, ib_zero h0, h0, hv]
          exact World.cell?_setCell_same wE ⟨sh, i' * 68 + 3, none⟩ _ hid
        · have hsize : wD.heap.size = ib k b0 i' := by rw [OD.size]; exact zC
          refine ⟨cc, q1, q2, fun h => by omega, ?_, fun _ => ⟨L, ?_, q3, q4⟩⟩
          · rw [hF, hv, hsize, show oi k b0 i' = some ⟨ib k b0 i', 0, none⟩ from if_neg (by omega)]
            exact World.cell?_setCell_same wE ⟨sh, i' * 68 + 3, none⟩ _ hid
          · rw [OF.other _ (by simp only [ib]; omega), e, ← hsize]
            exact heap_at wD.drew _
      · obtain ⟨cc, q1, q2, q3, q4, q5⟩ := S.id1 i' (by omega)
        refine ⟨cc, q1, q2, q3, hsh _ _ (by omega) (by omega) q4, fun hk => ?_⟩
        have h1 := ib_in k b0 hk
        have h2 := hibm i' (by omega)
        have h3 := Bs_mono k b0 (Nat.zero_le i')
        have e0 : Bs k b0 0 = b0 := rfl
        rw [sm _ (by omega) (by omega) (by omega)]
        exact q5 hk
    ob := fun i' j h1 h2 => by
      by_cases e : i' = i
      · subst e
        obtain ⟨cur, r1, r2, r3⟩ := K.row
        rw [World.cell?_of_block (a := ⟨Bs k b0 i', j, none⟩) (smC _ (Nat.le_refl _) (by simp only [ib]; omega))]
        simp [World.cell?, r1, r3 j h2]
      · have h3 := ranges i' j (by omega) h2
        have h4 : Bs k b0 i' < ch k b0 i' j := by simp only [ch]; omega
        have h5 := Bs_mono k b0 (Nat.zero_le i')
        have e0 : Bs k b0 0 = b0 := rfl
        rw [World.cell?_of_block (a := ⟨Bs k b0 i', j, none⟩) (sm (Bs k b0 i') (by omega) (by omega) (by omega))]
        exact S.ob i' j (by omega) h2
    tk := fun i' j h1 h2 => by
      by_cases e : i' = i
      · subst e
        rw [World.cell?_of_block (a := ⟨ch k b0 i' j + 1, 1, none⟩) (smC _ (by simp only [ch]; omega) (by simp only [ch, ib]; omega))]
        exact K.tk j h2
      · have h3 := ranges i' j (by omega) h2
        rw [World.cell?_of_block (a := ⟨ch k b0 i' j + 1, 1, none⟩) (sm (ch k b0 i' j + 1) (by omega) (by omega) (by omega))]
        exact S.tk i' j (by omega) h2
    op := fun i' j h1 h2 => by
      by_cases e : i' = i
      · subst e
        rw [smC _ (by simp only [ch]; omega) (by simp only [ch, ib]; omega)]
        exact K.op j h2
      · have h3 := ranges i' j (by omega) h2
        rw [sm _ (by omega) (by omega) (by omega)]
        exact S.op i' j (by omega) h2 }
end
end Go.Proofs.Ybulkeca
