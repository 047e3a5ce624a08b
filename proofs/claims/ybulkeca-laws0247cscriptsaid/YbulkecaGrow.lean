import Derived.Test.YbulkecaPop
set_option linter.unusedVariables false
namespace Go.Proofs.Ybulkeca
open Go.RowKit

theorem heap_store {w : World} {b o : Nat} {cur : Array Value} {e : TypeId} {fz : Nat × Nat} (h : w.heap[b]? = some (.cells cur e fz)) (x : Value) : (w.setCell ⟨b, o, none⟩ x).heap[b]? = some (.cells (cur.setIfInBounds o x) e fz) := by
  simp only [World.setCell, Array.getElem?_modify, if_true, h]
  rfl
theorem ring_set0 {w : World} {R : Nat} {x0 x1 x2 x3 : Value} (h : w.heap[R]? = some (ringObj x0 x1 x2 x3)) (y : Value) : (w.setCell ⟨R, 0, none⟩ y).heap[R]? = some (ringObj y x1 x2 x3) := heap_store h y
theorem ring_set3 {w : World} {R : Nat} {x0 x1 x2 x3 : Value} (h : w.heap[R]? = some (ringObj x0 x1 x2 x3)) (y : Value) : (w.setCell ⟨R, 3, none⟩ y).heap[R]? = some (ringObj x0 x1 x2 y) := heap_store h y
theorem Rs.lt {w : World} {R C base L : Nat} {nx : Option Addr} {sq : Nat → Nat} {tk : Nat → Int} (h : Rs w R C base L nx sq tk) : R < w.heap.size := (Array.getElem?_eq_some_iff.1 h.blk).1
theorem Rs.ltc {w : World} {R C base L : Nat} {nx : Option Addr} {sq : Nat → Nat} {tk : Nat → Int} (h : Rs w R C base L nx sq tk) (h0 : 0 < L) : C < w.heap.size := World.block_lt_of_cell? _ _ (h.cs.seq 0 h0)

theorem named {P : Program} {f : FuncId} {args : Array Value} {w X W : World} {E : Ending} (h : Calls P f args w fun e w' => e = E ∧ w' = X) (hW : W = X) : Hid (Calls P f args w fun e w' => e = E ∧ W = w') :=
  hide (Calls.mono h fun e w' hh => ⟨hh.1, hW.trans hh.2.symm⟩)

theorem grow_steps (w w1 : World) (Q size maxC head hr tail tr res lim C base L R2 C2 : Nat) (sq : Nat → Nat) (tk : Nat → Int) (x M : Int) (hQ1 : Qs w1 Q size maxC head hr tail tr res lim) (hR1 : Rs w1 tr C base L none sq tk) (hRs : Rs w1 R2 C2 0 (2 * L) none (fun j => j) (fun _ => 0)) (hT : Touch [] w w1)
    (hQC : Q ≠ C) (hQR : Q ≠ tr) (hL0 : 1 ≤ L) (hL : L ≤ 2048) (ht : tail ≤ 4294967296) (hR2 : w.heap.size ≤ R2) (hC2 : w.heap.size ≤ C2) (qlt : Q < w.heap.size) (rlt : tr < w.heap.size) (clt : C < w.heap.size) :
    ∃ w2 w3 w4 w5 w6 w7 w8, Hid (Calls Yba.prog 30 #[.pointer (some ⟨Q, 132, none⟩), .int .u64 (tail : Int), .int .u64 M] w1 fun e w' => e = .returned (.bool true) ∧ w2 = w') ∧
      w2.cell? ⟨R2, 0, none⟩ = some (.int .u64 (0 : Nat)) ∧ w2.frozen? ⟨R2, 0, none⟩ = false ∧ w3 = w2.setCell ⟨R2, 0, none⟩ (.int .u64 tail) ∧
      w3.cell? ⟨R2, 2, none⟩ = some (.slice (some ⟨C2, 0, none⟩) (2 * L) (2 * L)) ∧ w3.cell? ⟨C2, 1, none⟩ = some (.int .i64 0) ∧ w3.frozen? ⟨C2, 1, none⟩ = false ∧ w4 = w3.setCell ⟨C2, 1, none⟩ (.int .i64 x) ∧
      w4.cell? ⟨R2, 2, none⟩ = some (.slice (some ⟨C2, 0, none⟩) (2 * L) (2 * L)) ∧
      Hid (Calls Yba.prog 28 #[.pointer (some ⟨C2, 0, none⟩), .int .u64 1] w4 fun e w' => e = .returned (.tuple #[]) ∧ w5 = w') ∧
      Hid (Calls Yba.prog 27 #[.pointer (some ⟨tr, 3, none⟩), .pointer (some ⟨R2, 0, none⟩)] w5 fun e w' => e = .returned (.tuple #[]) ∧ w6 = w') ∧
      Hid (Calls Yba.prog 27 #[.pointer (some ⟨Q, 133, none⟩), .pointer (some ⟨R2, 0, none⟩)] w6 fun e w' => e = .returned (.tuple #[]) ∧ w7 = w') ∧
      Hid (Calls Yba.prog 28 #[.pointer (some ⟨Q, 132, none⟩), .int .u64 ((tail + 1 : Nat) : Int)] w7 fun e w' => e = .returned (.tuple #[]) ∧ w8 = w') ∧
      Qs w8 Q size maxC head hr (tail + 1) R2 res lim ∧ Rs w8 tr C base L (some ⟨R2, 0, none⟩) sq tk ∧ Rs w8 R2 C2 tail (2 * L) none (fun j => if j = 0 then 1 else j) (fun j => if j = 0 then x else 0) ∧ Touch [Q, tr] w w8 := by
  -- the tail is marked
  obtain ⟨w2, hw2⟩ : ∃ w2, w2 = w1.setCell ⟨Q, 132, none⟩ (.int .u64 M) := ⟨_, rfl⟩
  have K2 := named (cas_at Q 132 tail M w1 hQ1.c132 (hQ1.fz _)) hw2
  have b2 : ∀ i, i ≠ Q → w2.heap[i]? = w1.heap[i]? := fun i hi => by rw [hw2]; exact Below.heap_setCell _ _ _ _ hi
  -- the base
  obtain ⟨w3, hw3⟩ : ∃ w3, w3 = w2.setCell ⟨R2, 0, none⟩ (.int .u64 tail) := ⟨_, rfl⟩
  have hRs2 : Rs w2 R2 C2 0 (2 * L) none (fun j => j) (fun _ => 0) := hRs.of_blocks (b2 _ (by omega)) (b2 _ (by omega))
  have s0 : w2.cell? ⟨R2, 0, none⟩ = some (.int .u64 (0 : Nat)) := by simp [World.cell?, hRs2.blk, ringObj]
  have z0 : w2.frozen? ⟨R2, 0, none⟩ = false := by simp [World.frozen?, hRs2.blk, ringObj]
  have b3 : ∀ i, i ≠ R2 → w3.heap[i]? = w2.heap[i]? := fun i hi => by rw [hw3]; exact Below.heap_setCell _ _ _ _ hi
  have hRs3 : Rs w3 R2 C2 tail (2 * L) none (fun j => j) (fun _ => 0) := ⟨by rw [hw3]; exact ring_set0 hRs2.blk _, hRs2.cs.of_block (b3 _ (Ne.symm hRs2.ne)), hRs2.ne⟩
  have s2 : w3.cell? ⟨R2, 2, none⟩ = some (.slice (some ⟨C2, 0, none⟩) (2 * L) (2 * L)) := by simp [World.cell?, hRs3.blk, ringObj]
  -- the task
  obtain ⟨w4, hw4⟩ : ∃ w4, w4 = w3.setCell ⟨C2, 1, none⟩ (.int .i64 x) := ⟨_, rfl⟩
  have t1 : w3.cell? ⟨C2, 1, none⟩ = some (.int .i64 0) := hRs3.cs.tsk 0 (by omega)
  have z1 : w3.frozen? ⟨C2, 1, none⟩ = false := hRs3.cs.fz _
  have b4 : ∀ i, i ≠ C2 → w4.heap[i]? = w3.heap[i]? := fun i hi => by rw [hw4]; exact Below.heap_setCell _ _ _ _ hi
  have hRs4 : Rs w4 R2 C2 tail (2 * L) none (fun j => j) (fun j => if j = 0 then x else 0) := ⟨(b4 _ hRs3.ne).trans hRs3.blk, by rw [hw4]; exact hRs3.cs.setTsk (i := 0) (by omega) x, hRs3.ne⟩
  have u2 : w4.cell? ⟨R2, 2, none⟩ = some (.slice (some ⟨C2, 0, none⟩) (2 * L) (2 * L)) := by simp [World.cell?, hRs4.blk, ringObj]
  -- its mark
  obtain ⟨w5, hw5⟩ : ∃ w5, w5 = w4.setCell ⟨C2, 0, none⟩ (.int .u64 1) := ⟨_, rfl⟩
  have K5 := named (store_at C2 0 _ 1 w4 (hRs4.cs.seq 0 (by omega)) (hRs4.cs.fz _)) hw5
  have b5 : ∀ i, i ≠ C2 → w5.heap[i]? = w4.heap[i]? := fun i hi => by rw [hw5]; exact Below.heap_setCell _ _ _ _ hi
  have hRs5 : Rs w5 R2 C2 tail (2 * L) none (fun j => if j = 0 then 1 else j) (fun j => if j = 0 then x else 0) := ⟨(b5 _ hRs4.ne).trans hRs4.blk, by rw [hw5]; exact hRs4.cs.setSeq (i := 0) (by omega) 1, hRs4.ne⟩
  -- the next ring
  obtain ⟨w6, hw6⟩ : ∃ w6, w6 = w5.setCell ⟨tr, 3, none⟩ (.pointer (some ⟨R2, 0, none⟩)) := ⟨_, rfl⟩
  have hb5 : ∀ i, i < w.heap.size → i ≠ Q → w5.heap[i]? = w1.heap[i]? := fun i hi hq => (b5 i (by omega)).trans ((b4 i (by omega)).trans ((b3 i (by omega)).trans (b2 i hq)))
  have hR5 : Rs w5 tr C base L none sq tk := hR1.of_blocks (hb5 _ rlt (Ne.symm hQR)) (hb5 _ clt (Ne.symm hQC))
  have K6 := named (storep_at tr 3 R2 _ _ _ _ _ w5 (show w5.cell? ⟨tr, 3, none⟩ = some (.pointer none) by simp [World.cell?, hR5.blk, ringObj]) (by simp [World.frozen?, hR5.blk, ringObj]) hRs5.blk) hw6
  have b6 : ∀ i, i ≠ tr → w6.heap[i]? = w5.heap[i]? := fun i hi => by rw [hw6]; exact Below.heap_setCell _ _ _ _ hi
  have hR6 : Rs w6 tr C base L (some ⟨R2, 0, none⟩) sq tk := ⟨by rw [hw6]; exact ring_set3 hR5.blk _, hR5.cs.of_block (b6 _ (Ne.symm hR5.ne)), hR5.ne⟩
  have hRs6 : Rs w6 R2 C2 tail (2 * L) none (fun j => if j = 0 then 1 else j) (fun j => if j = 0 then x else 0) := hRs5.of_blocks (b6 _ (by omega)) (b6 _ (by omega))
  -- the queue's own
  have hb6 : w6.heap[Q]? = w2.heap[Q]? := (b6 _ hQR).trans ((b5 _ (by omega)).trans ((b4 _ (by omega)).trans (b3 _ (by omega))))
  have fz6 : ∀ k, w6.frozen? ⟨Q, k, none⟩ = false := fun k => by
    rw [World.frozen?_of_block (a := ⟨Q, k, none⟩) hb6, hw2, World.frozen?_setCell]; exact hQ1.fz k
  have c6 : ∀ {o v}, o ≠ 132 → w1.cell? ⟨Q, o, none⟩ = some v → w6.cell? ⟨Q, o, none⟩ = some v := fun ho hc => by
    rw [World.cell?_of_block (a := ⟨Q, _, none⟩) hb6, hw2]; exact cell_setCell hc ho
  have c6t : w6.cell? ⟨Q, 132, none⟩ = some (.int .u64 M) := by
    rw [World.cell?_of_block (a := ⟨Q, _, none⟩) hb6, hw2]; exact World.cell?_setCell_same _ _ _ hQ1.c132
  obtain ⟨w7, hw7⟩ : ∃ w7, w7 = w6.setCell ⟨Q, 133, none⟩ (.pointer (some ⟨R2, 0, none⟩)) := ⟨_, rfl⟩
  have K7 := named (storep_at Q 133 R2 _ _ _ _ _ w6 (c6 (by omega) hQ1.c133) (fz6 _) hRs6.blk) hw7
  have c7t : w7.cell? ⟨Q, 132, none⟩ = some (.int .u64 M) := by rw [hw7]; exact cell_setCell c6t (by omega)
  obtain ⟨w8, hw8⟩ : ∃ w8, w8 = w7.setCell ⟨Q, 132, none⟩ (.int .u64 ((tail + 1 : Nat) : Int)) := ⟨_, rfl⟩
  have K8 := named (store_at Q 132 _ ((tail + 1 : Nat) : Int) w7 c7t (by rw [hw7, World.frozen?_setCell]; exact fz6 _)) hw8
  have c8 : ∀ {o v}, o ≠ 132 → o ≠ 133 → w1.cell? ⟨Q, o, none⟩ = some v → w8.cell? ⟨Q, o, none⟩ = some v := fun h1 h2 hc => by
    rw [hw8, hw7]; exact cell_setCell (cell_setCell (c6 h1 hc) h2) h1
  have hQ8 : Qs w8 Q size maxC head hr (tail + 1) R2 res lim :=
    ⟨c8 (by omega) (by omega) hQ1.c0, c8 (by omega) (by omega) hQ1.c1, c8 (by omega) (by omega) hQ1.c66, c8 (by omega) (by omega) hQ1.c67, by rw [hw8]; exact World.cell?_setCell_same _ _ _ c7t,
     by rw [hw8, hw7]; exact cell_setCell (World.cell?_setCell_same _ _ _ (c6 (by omega) hQ1.c133)) (by omega), c8 (by omega) (by omega) hQ1.c134, c8 (by omega) (by omega) hQ1.c135,
     fun k => by rw [hw8, hw7, World.frozen?_setCell, World.frozen?_setCell]; exact fz6 k⟩
  have b8 : ∀ i, i ≠ Q → w8.heap[i]? = w6.heap[i]? := fun i hi => by rw [hw8, hw7, Below.heap_setCell _ _ _ _ hi, Below.heap_setCell _ _ _ _ hi]
  have hT8 : Touch [Q, tr] w w8 := by
    have t2 : Touch [Q, tr] w w2 := by rw [hw2]; exact (hT.mono (by simp)).setCell (by simp) _
    have t3 : Touch [Q, tr] w w3 := by rw [hw3]; exact t2.setNew hR2 _
    have t4 : Touch [Q, tr] w w4 := by rw [hw4]; exact t3.setNew hC2 _
    have t5 : Touch [Q, tr] w w5 := by rw [hw5]; exact t4.setNew hC2 _
    have t6 : Touch [Q, tr] w w6 := by rw [hw6]; exact t5.setCell (by simp) _
    rw [hw8, hw7]
    exact (t6.setCell (by simp) _).setCell (by simp) _
  exact ⟨w2, w3, w4, w5, w6, w7, w8, K2, s0, z0, hw3, s2, t1, z1, hw4, u2, K5, K6, K7, K8, hQ8, hR6.of_blocks (b8 _ (Ne.symm hQR)) (b8 _ (Ne.symm hQC)), hRs6.of_blocks (b8 _ (by omega)) (b8 _ (by omega)), hT8⟩

set_option maxHeartbeats 1000000 in
theorem grow_at (w : World) (Q size maxC head hr tail tr res lim C base L : Nat) (sq : Nat → Nat) (tk : Nat → Int) (x : Int) (h : Qs w Q size maxC head hr tail tr res lim) (hr_ : Rs w tr C base L none sq tk) (hQC : Q ≠ C) (hQR : Q ≠ tr) (hL0 : 1 ≤ L) (hL : L ≤ 2048) (ht : tail ≤ 4294967296) :
    Calls Yba.prog 33 #[.pointer (some ⟨Q, 0, none⟩), .pointer (some ⟨tr, 0, none⟩), .int .u64 (tail : Int), .int .i64 x] w fun e w' => e = .returned (.bool true) ∧ ∃ R2 C2, w.heap.size ≤ R2 ∧ w.heap.size ≤ C2 ∧
      Qs w' Q size maxC head hr (tail + 1) R2 res lim ∧ Rs w' tr C base L (some ⟨R2, 0, none⟩) sq tk ∧ Rs w' R2 C2 tail (2 * L) none (fun j => if j = 0 then 1 else j) (fun j => if j = 0 then x else 0) ∧ Touch [Q, tr] w w' := by
  have hnot : ∀ (x : Bool) (w : World), (Op.unary .not (.bool x)).run Yba.prog w = .ok (.bool (!x)) w := fun _ _ => rfl
  have HN := hide (newRing_at (2 * L) (by omega) (by omega) w)
  have r2 : w.cell? ⟨tr, 2, none⟩ = some (.slice (some ⟨C, 0, none⟩) L L) := by simp [World.cell?, hr_.blk, ringObj]
  have HQ := hide h
  have HR := hide hr_
  clear h hr_
  go_enter Yba.func33, Yba.ntmps33
  go_upto_region 2 with (go_at_call 26; refine Calls.mono HN.out ?_; rintro e w1 ⟨R2, C2, rfl, hR2, hC2, hRs, hT⟩)
  have hQ1 : Qs w1 Q size maxC head hr tail tr res lim := HQ.out.of_block (hT.block _ HQ.out.lt (by simp))
  have hR1 : Rs w1 tr C base L none sq tk := HR.out.of_blocks (hT.block _ HR.out.lt (by simp)) (hT.block _ (HR.out.ltc (by omega)) (by simp))
  have qlt := HQ.out.lt
  have rlt := HR.out.lt
  have clt := HR.out.ltc (by omega)
  obtain ⟨M, hM⟩ : ∃ M, bits .or .u64 (tail : Int) 9223372036854775808 = M := ⟨_, rfl⟩
  obtain ⟨w2, w3, w4, w5, w6, w7, w8, K2, s0, z0, hw3, s2, t1, z1, hw4, u2, K5, K6, K7, K8, hfin⟩ := grow_steps w w1 Q size maxC head hr tail tr res lim C base L R2 C2 sq tk x M hQ1 hR1 hRs hT hQC hQR hL0 hL ht hR2 hC2 qlt rlt clt
  have HFIN := hide hfin
  have HW3 := hide hw3
  have HW4 := hide hw4
  clear hQ1 hR1 hRs hT HN HQ HR hw3 hw4 hfin
  go_upto_region 4 with (go_at_call 30; refine Calls.mono K2.out ?_; rintro e w' ⟨rfl, rfl⟩)
  go_upto_region 5 with fail
  rw [← HW3.out]
  clear s0 z0
  go_upto_region 6 with fail
  rw [← HW4.out]
  go_upto_region 7 with (go_at_call 28; refine Calls.mono K5.out ?_; rintro e w' ⟨rfl, rfl⟩)
  go_upto_region 8 with (go_at_call 27; refine Calls.mono K6.out ?_; rintro e w' ⟨rfl, rfl⟩)
  go_upto_region 9 with (go_at_call 27; refine Calls.mono K7.out ?_; rintro e w' ⟨rfl, rfl⟩)
  go_wp2_with (go_at_call 28; refine Calls.mono K8.out ?_; rintro e w' ⟨rfl, rfl⟩)
  go_ret
  exact ⟨rfl, R2, C2, hR2, hC2, HFIN.out⟩
end Go.Proofs.Ybulkeca
