import Derived.Test.YbulkecaBd
set_option linter.unusedVariables false
namespace Go.Proofs.Ybulkeca
open Go.RowKit

theorem info71 : ((Yba.prog.info? 71).map (fun i => (i.size, i.bytes))) = some (68, 104) := by kernel_rfl
theorem zero71 : ((Yba.prog.info? 71).bind (·.zero)).map (fun z => (z.cells.size, z.cells[0]!, z.cells[1]!, z.cells[3]!)) = some (68, .int .i64 0, .int .i32 0, .slice none 0 0) := by kernel_rfl
theorem info69 : (Yba.prog.info? 69).map (fun i => (i.zero, i.size, i.bytes)) = some (some (.slice none 0 0), 1, 24) := by kernel_rfl
theorem zero66 : (Yba.zeroCells66[0]?, Yba.zeroCells66[7]?, Yba.zeroCells66[76]?) = (some (.int .i64 0), some (.slice none 0 0), some (.int .i64 0)) := by kernel_rfl

theorem parts71 : ∃ i z, Yba.prog.info? 71 = some i ∧ i.zero = some z ∧ i.size = 68 ∧ i.bytes = 104 ∧ z.cells.size = 68 ∧ z.cells[0]! = .int .i64 0 ∧ z.cells[1]! = .int .i32 0 ∧ z.cells[3]! = .slice none 0 0 := by
  obtain ⟨i, hi, h1⟩ := Option.map_eq_some_iff.1 info71
  have h2 := zero71
  rw [hi] at h2
  simp only [Option.bind_some] at h2
  obtain ⟨z, hz, h3⟩ := Option.map_eq_some_iff.1 h2
  simp only [Prod.mk.injEq] at h1 h3
  exact ⟨i, z, hi, hz, h1.1, h1.2, h3⟩

theorem made_get (z : Array Value) (n o : Nat) (h : o < n) : (madeCells z n)[o]? = some (z[o % z.size]!) := by
  simp [madeCells, h]

theorem bd_start {k : Nat → Nat} {H N p sh og b0 : Nat} {w w1 w2 w3 w4 : World} (D : Ds H p sh og b0) (hH : w.heap.size = H) {z : Value} (z0 : z.cells.size = 68) (z1 : z.cells[0]! = .int .i64 0) (z2 : z.cells[1]! = .int .i32 0) (z3 : z.cells[3]! = .slice none 0 0)
    (h1 : w1 = w.alloc (.cells Yba.zeroCells66 66)) {n : Nat} (hn : n = N * 68) (h2 : w2 = w1.alloc (.cells (madeCells z.cells n) 71)) (h3 : w3 = w2.setCell ⟨p, 7, none⟩ (.slice (some ⟨sh, 0, none⟩) N N)) {m : Nat} (hm : m = N * 1)
    (h4 : w4 = w3.alloc (.cells (madeCells (Value.slice none 0 0).cells m) 69)) : Bd k H N p sh og b0 w w4 0 := by
  obtain ⟨d1, d2, d3, d4⟩ := D
  have zz := zero66
  simp only [Prod.mk.injEq] at zz
  have s1 : w1.heap.size = H + 1 := by rw [h1]; simp [hH]
  have s2 : w2.heap.size = H + 2 := by rw [h2]; simp [s1]
  have O3 := Only.setCell p 7 w2 (.slice (some ⟨sh, 0, none⟩) N N)
  rw [← h3] at O3
  have s3 : w3.heap.size = H + 2 := by rw [O3.size, s2]
  have s4 : w4.heap.size = H + 3 := by rw [h4]; simp [s3]
  have p1 : w2.heap[p]? = some (.cells Yba.zeroCells66 66) := by
    rw [h2, heap_lt _ (by omega), h1, d1, ← hH]; exact heap_at _ _
  have p4 : w4.heap[p]? = w3.heap[p]? := by rw [h4, heap_lt _ (by omega)]
  have hs : w4.heap[sh]? = some (.cells (madeCells z.cells n) 71) := by
    rw [h4, heap_lt _ (by omega), O3.other _ (by omega), h2, d2, ← s1]; exact heap_at _ _
  have ho : w4.heap[og]? = some (.cells (madeCells (Value.slice none 0 0).cells m) 69) := by
    rw [h4, d3, ← s3]; exact heap_at _ _
  have hsc : ∀ o, o < N * 68 → w4.cell? ⟨sh, o, none⟩ = some (z.cells[o % 68]!) := fun o h => by
    simp only [World.cell?, hs]
    rw [made_get _ _ _ (by omega), z0]
    rfl
  have old : ∀ b, b < H → w4.heap[b]? = w.heap[b]? := fun b hb => by
    rw [h4, heap_lt _ (by omega), O3.other _ (by omega), h2, heap_lt _ (by omega), h1, heap_lt _ (by omega)]
  exact {
    size := by rw [s4]; show _ = b0; omega
    bel := ⟨by rw [h4]; exact O3.os.trans (by rw [h2, h1]; rfl), by rw [h4]; exact O3.tape.trans (by rw [h2, h1]; rfl), by rw [h4]; exact O3.output.trans (by rw [h2, h1]; rfl), by omega, old⟩
    c0 := by
      rw [World.cell?_of_block (a := ⟨p, 0, none⟩) p4, h3]
      exact cell_setCell (by simp only [World.cell?, p1]; exact zz.1) (by omega)
    c7 := by
      rw [World.cell?_of_block (a := ⟨p, 7, none⟩) p4, h3]
      exact World.cell?_setCell_same w2 ⟨p, 7, none⟩ _ (by simp only [World.cell?, p1]; exact zz.2.1)
    c76 := by
      rw [World.cell?_of_block (a := ⟨p, 76, none⟩) p4, h3]
      exact cell_setCell (by simp only [World.cell?, p1]; exact zz.2.2) (by omega)
    pfz := fun o => by
      rw [World.frozen?_of_block (a := ⟨p, o, none⟩) p4, h3, World.frozen?_setCell]
      simp [World.frozen?, p1]
    ix := fun i' hi' => ⟨0, by rw [hsc _ (by omega), show i' * 68 % 68 = 0 by omega, z1]⟩
    mu := fun i' hi' => by rw [hsc _ (by omega), show (i' * 68 + 1) % 68 = 1 by omega, z2]
    sfz := fun o => by simp [World.frozen?, hs]
    ogx := fun i' hi' => ⟨_, by simp only [World.cell?, ho]; exact made_get _ _ _ (by omega)⟩
    ogz := fun o => by simp [World.frozen?, ho]
    og1 := fun i' h => by omega
    id0 := fun i' _ hi' => by rw [hsc _ (by omega), show (i' * 68 + 3) % 68 = 3 by omega, z3]
    id1 := fun i' h => by omega
    ob := fun i' j h => by omega
    tk := fun i' j h => by omega
    op := fun i' j h => by omega }

/-- What the closing loops read. -/
structure Cl (k : Nat → Nat) (N p sh og b0 r D T : Nat) (c : Nat → Nat) (s0 cp : Int) (wr : World) : Prop where
  c0 : wr.cell? ⟨p, 0, none⟩ = some (.int .i64 cp)
  c7 : wr.cell? ⟨p, 7, none⟩ = some (.slice (some ⟨sh, 0, none⟩) N N)
  c76 : wr.cell? ⟨p, 76, none⟩ = some (.int .i64 (((D - T : Nat) : Int) * 4294967296 + r))
  og1 : ∀ i, i < N → wr.cell? ⟨og, i, none⟩ = some (.slice (some ⟨Bs k b0 i, 0, none⟩) (k i) (k i))
  idl : ∀ i, i < N → wr.cell? ⟨sh, i * 68 + 3, none⟩ = some (.slice (oi k b0 i) (k i - nk k s0 i) (c i))
  row : ∀ i j, i < N → nk k s0 i ≤ j → j < k i → wr.cell? ⟨ib k b0 i, j - nk k s0 i, none⟩ = some (wp k b0 i j)
  ob : ∀ i j, i < N → j < k i → wr.cell? ⟨Bs k b0 i, j, none⟩ = some (wp k b0 i j)
  tk : ∀ i j, i < N → j < k i → wr.cell? ⟨ch k b0 i j + 1, 1, none⟩ = some (.chan (some (ch k b0 i j)))
  op : ∀ i j, i < N → j < k i → wr.heap[ch k b0 i j]? = some (if j < nk k s0 i then shutCh else openCh)

theorem Cl.below {k : Nat → Nat} {N p sh og b0 r D T : Nat} {c : Nat → Nat} {s0 cp : Int} {wr wr' : World} (C : Cl k N p sh og b0 r D T c s0 cp wr) (B : Below wr.heap.size wr wr') : Cl k N p sh og b0 r D T c s0 cp wr' := by
  have h : ∀ {b o : Nat} {v : Value}, wr.cell? ⟨b, o, none⟩ = some v → wr'.cell? ⟨b, o, none⟩ = some v := fun {b o v} hc =>
    (World.cell?_of_block (a := ⟨b, o, none⟩) (B.block b (World.block_lt_of_cell? wr ⟨b, o, none⟩ hc))).trans hc
  exact ⟨h C.c0, h C.c7, h C.c76, fun i hi => h (C.og1 i hi), fun i hi => h (C.idl i hi), fun i j a b c => h (C.row i j a b c), fun i j a b => h (C.ob i j a b), fun i j a b => h (C.tk i j a b),
    fun i j a b => (B.block _ (Array.getElem?_eq_some_iff.1 (C.op i j a b)).1).trans (C.op i j a b)⟩

theorem bd_done {k : Nat → Nat} {H N p sh og b0 r : Nat} {s0 cp : Int} {w wN w1 w2 : World} (D : Ds H p sh og b0) (S : Bd k H N p sh og b0 w wN N) (k15 : ∀ i, k i ≤ 15) (hN : N ≤ 1024) (hr : r < 256) (hcp1 : -32768 ≤ cp) (hcp2 : cp ≤ 32767)
    (hs0 : s0 = r + Sk k N - cp) (h1 : w1 = wN.setCell ⟨p, 0, none⟩ (.int .i64 cp)) (h2 : w2 = w1.setCell ⟨p, 76, none⟩ (.int .i64 ((Sk k N : Int) * 4294967296 + r))) :
    w1.cell? ⟨p, 76, none⟩ = some (.int .i64 0) ∧ w1.frozen? ⟨p, 76, none⟩ = false ∧
    ∃ c, Calls Yba.prog 6 #[.pointer (some ⟨p, 0, none⟩)] w2 fun e w' => e = .returned (.tuple #[]) ∧ Below H w w' ∧ Cl k N p sh og b0 r (Sk k N) (Tk k s0 N) c s0 cp w' := by
  have lo := Bd.lo D k N
  obtain ⟨d1, d2, d3, d4⟩ := D
  have O1 := Only.setCell p 0 wN (.int .i64 cp)
  have O2 := Only.setCell p 76 w1 (.int .i64 ((Sk k N : Int) * 4294967296 + r))
  rw [← h1] at O1
  rw [← h2] at O2
  have O := O1.trans O2
  have e76 : w1.cell? ⟨p, 76, none⟩ = some (.int .i64 0) := by rw [h1]; exact cell_setCell S.c76 (by omega)
  have f76 : ∀ o, w1.frozen? ⟨p, o, none⟩ = false := fun o => by rw [h1, World.frozen?_setCell]; exact S.pfz o
  refine ⟨e76, f76 _, ?_⟩
  have hb0 : b0 ≤ Bs k b0 N := Bs_mono k b0 (Nat.zero_le N)
  have hsz : w2.heap.size = Bs k b0 N := O.size.trans S.size
  have hc : ∀ i, ∃ cc, (i < N → Sd k b0 sh wN i cc) ∧ (¬ i < N → cc = k i) := fun i => by
    by_cases hi : i < N
    · obtain ⟨cc, h⟩ := S.id1 i hi
      exact ⟨cc, fun _ => h, fun h => absurd hi h⟩
    · exact ⟨k i, fun h => absurd h hi, fun _ => rfl⟩
  obtain ⟨c, hc⟩ : ∃ c : Nat → Nat, ∀ i, (i < N → Sd k b0 sh wN i (c i)) ∧ (¬ i < N → c i = k i) := ⟨fun i => (hc i).choose, fun i => (hc i).choose_spec⟩
  have hp2 : ∀ o v, o ≠ 0 → o ≠ 76 → wN.cell? ⟨p, o, none⟩ = some v → w2.cell? ⟨p, o, none⟩ = some v := fun o v q1 q2 hv => by
    rw [h2]
    refine cell_setCell ?_ (by omega)
    rw [h1]
    exact cell_setCell hv (by omega)
  have F : Fx k b0 N p sh r c w2 := {
    k15 := k15
    cz := fun i hk => by
      by_cases hi : i < N
      · exact ((hc i).1 hi).2.2.1 hk
      · rw [(hc i).2 hi]; exact hk
    ck := fun i => by
      by_cases hi : i < N
      · exact ((hc i).1 hi).1
      · rw [(hc i).2 hi]; exact Nat.le_refl _
    cm := fun i => by
      by_cases hi : i < N
      · exact ((hc i).1 hi).2.1
      · rw [(hc i).2 hi]; have := k15 i; unfold maxLen; omega
    n1 := hN
    r1 := hr
    ps := by omega
    pb := by omega
    sb := by omega
    top := by omega }
  have Sh : Shr k b0 N p sh r c s0 w2 w2 0 (.slice none 0 0) := {
    cnt := by rw [h2]; exact World.cell?_setCell_same w1 ⟨p, 76, none⟩ _ e76
    cntz := by rw [h2, World.frozen?_setCell]; exact f76 _
    pcell := fun _ _ => rfl
    mu := fun i hi => (O.cell (by omega)).trans (S.mu i hi)
    sfz := fun o => (O.frozen (by omega)).trans (S.sfz o)
    idl := fun i hi => by
      rw [O.cell (by omega), show mt k s0 0 i = 0 from if_neg (by omega)]
      exact ((hc i).1 hi).2.2.2.1
    row := fun i hi hk => by
      have hb := (F.ibr hi hk).1
      rw [O.other _ (by omega), show mt k s0 0 i = 0 from if_neg (by omega)]
      simpa using ((hc i).1 hi).2.2.2.2 hk
    own := World.ownsRow_nil _ _ _ _
    size := Nat.le_refl _
    other := fun _ _ _ _ _ => rfl
    os := rfl
    tape := rfl
    output := rfl }
  have hop : ∀ i j, i < N → j < k i → w2.heap[ch k b0 i j]? = some openCh := fun i j hi hj => by
    have := (F.chr hi hj).1
    rw [O.other _ (by omega)]; exact S.op i j hi hj
  have htk : ∀ i j, i < N → j < k i → w2.cell? ⟨ch k b0 i j + 1, 1, none⟩ = some (.chan (some (ch k b0 i j))) := fun i j hi hj => by
    have := (F.chr hi hj).1
    rw [O.cell (by omega)]; exact S.tk i j hi hj
  have e0 : w2.cell? ⟨p, 0, none⟩ = some (.int .i64 cp) := by
    rw [h2]
    refine cell_setCell ?_ (by omega)
    rw [h1]; exact World.cell?_setCell_same wN ⟨p, 0, none⟩ _ S.c0
  have e7 := hp2 7 _ (by decide) (by decide) S.c7
  refine ⟨c, Calls.mono (shrink_at k b0 N p sh r c s0 cp w2 F Sh (by omega) hop htk e0 hcp1 hcp2 e7 hs0) ?_⟩
  rintro e w' ⟨rfl, T⟩
  have oth : ∀ b, b < w2.heap.size → b ≠ p → b ≠ sh → (∀ i, i < N → 0 < k i → b ≠ ib k b0 i) → (∀ i j, i < N → j < k i → b ≠ ch k b0 i j) → w'.heap[b]? = wN.heap[b]? := fun b q1 q2 q3 q4 q5 =>
    (T.other b q1 q2 q3 q4 q5).trans (O.other b q2)
  have hlow : ∀ b, b < b0 → b ≠ p → b ≠ sh → w'.heap[b]? = wN.heap[b]? := fun b q1 q2 q3 => oth b (by omega) q2 q3 (fun i hi hk => by have := (F.ibr hi hk).1; omega) (fun i j hi hj => by have := (F.chr hi hj).1; omega)
  refine ⟨rfl, S.bel.trans ⟨T.os.trans O.os, T.tape.trans O.tape, T.output.trans O.output, by rw [← O.size]; exact T.size, fun b hb => hlow b (by omega) (by omega) (by omega)⟩, ?_⟩
  exact {
    c0 := (T.pcell 0 (by decide)).trans e0
    c7 := (T.pcell 7 (by decide)).trans e7
    c76 := T.cnt
    og1 := fun i hi => by
      rw [World.cell?_of_block (a := ⟨og, i, none⟩) (hlow og (by omega) (by omega) (by omega))]
      exact S.og1 i hi
    idl := T.idl
    row := fun i j hi h3 h4 => by
      obtain ⟨L, l1, l2, l3⟩ := T.row i hi (by omega)
      have : L[j - nk k s0 i]? = some (wp k b0 i j) := by
        have e : (L.take (k i - nk k s0 i))[j - nk k s0 i]? = ((ptrs k b0 i).drop (nk k s0 i))[j - nk k s0 i]? := by rw [l3]
        rw [List.getElem?_take, if_pos (by omega), List.getElem?_drop, show nk k s0 i + (j - nk k s0 i) = j by omega] at e
        rw [e]
        simp [ptrs, List.getElem?_range h4]
      simp [World.cell?, l1, this]
    ob := fun i j hi hj => by
      have q1 := ch_lt k b0 hj
      have q2 := Bs_mono k b0 (i := i + 1) (j := N) hi
      have q3 := Bs_mono k b0 (Nat.zero_le i)
      have q4 : Bs k b0 0 = b0 := rfl
      rw [World.cell?_of_block (a := ⟨Bs k b0 i, j, none⟩) (oth (Bs k b0 i) (by omega) (by omega) (by omega) (fun i' hi' hk' => by
        have q5 := ib_in k b0 hk'
        by_cases e : i = i'
        · subst e; omega
        · exact Bs_ne k b0 e (Nat.le_refl _) (by omega) (by omega) (by omega)) (fun i' j' hi' hj' => by
        have q5 := ch_lt k b0 hj'
        by_cases e : i = i'
        · subst e; omega
        · exact Bs_ne k b0 e (Nat.le_refl _) (by omega) (by omega) (by omega)))]
      exact S.ob i j hi hj
    tk := fun i j hi hj => by
      have q := F.chr hi hj
      rw [World.cell?_of_block (a := ⟨ch k b0 i j + 1, 1, none⟩) (T.other (ch k b0 i j + 1) (by omega) (by omega) (by omega) (fun i' hi' hk' => (q.2.2 i' hi' hk').2) (fun i' j' hi' hj' e => by
        have q1 := ch_lt k b0 hj
        have q5 := ch_lt k b0 hj'
        by_cases e2 : i = i'
        · subst e2; simp only [ch] at e; omega
        · exact Bs_ne k b0 e2 (by omega) (by omega) (by omega) (by omega) e))]
      exact htk i j hi hj
    op := T.chs }
end Go.Proofs.Ybulkeca
