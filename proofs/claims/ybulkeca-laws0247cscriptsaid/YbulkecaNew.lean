import Derived.Test.YbulkecaRing
set_option linter.unusedVariables false
namespace Go.Proofs.Ybulkeca
open Go.RowKit

theorem z0 : Yba.zeroCells110.size = 200 := by kernel_rfl
theorem z66 : Yba.zeroCells110[66]? = some (.int .u64 0) := by kernel_rfl
theorem z67 : Yba.zeroCells110[67]? = some (.pointer none) := by kernel_rfl
theorem z132 : Yba.zeroCells110[132]? = some (.int .u64 0) := by kernel_rfl
theorem z133 : Yba.zeroCells110[133]? = some (.pointer none) := by kernel_rfl
theorem z134 : Yba.zeroCells110[134]? = some (.int .u64 0) := by kernel_rfl
theorem z135 : Yba.zeroCells110[135]? = some (.int .u64 0) := by kernel_rfl

/-- The queue's own fields, its rings not yet laid. -/
structure Q0 (w : World) (Q size maxC : Nat) : Prop where
  c0 : w.cell? ⟨Q, 0, none⟩ = some (.int .u64 size)
  c1 : w.cell? ⟨Q, 1, none⟩ = some (.int .u64 maxC)
  c66 : w.cell? ⟨Q, 66, none⟩ = some (.int .u64 0)
  c67 : w.cell? ⟨Q, 67, none⟩ = some (.pointer none)
  c132 : w.cell? ⟨Q, 132, none⟩ = some (.int .u64 0)
  c133 : w.cell? ⟨Q, 133, none⟩ = some (.pointer none)
  c134 : w.cell? ⟨Q, 134, none⟩ = some (.int .u64 0)
  c135 : w.cell? ⟨Q, 135, none⟩ = some (.int .u64 0)
  fz : ∀ k, w.frozen? ⟨Q, k, none⟩ = false

theorem Q0.setMax {w : World} {Q size maxC : Nat} (h : Q0 w Q size maxC) (x : Nat) : Q0 (w.setCell ⟨Q, 1, none⟩ (.int .u64 x)) Q size x :=
  ⟨cell_setCell h.c0 (by omega), World.cell?_setCell_same _ _ _ h.c1, cell_setCell h.c66 (by omega), cell_setCell h.c67 (by omega), cell_setCell h.c132 (by omega), cell_setCell h.c133 (by omega), cell_setCell h.c134 (by omega), cell_setCell h.c135 (by omega), fun k => by rw [World.frozen?_setCell]; exact h.fz k⟩
theorem Q0.of_block {w w' : World} {Q size maxC : Nat} (h : Q0 w Q size maxC) (hb : w'.heap[Q]? = w.heap[Q]?) : Q0 w' Q size maxC := by
  have k : ∀ {o v}, w.cell? ⟨Q, o, none⟩ = some v → w'.cell? ⟨Q, o, none⟩ = some v := fun hc => (World.cell?_of_block (a := ⟨Q, _, none⟩) hb).trans hc
  exact ⟨k h.c0, k h.c1, k h.c66, k h.c67, k h.c132, k h.c133, k h.c134, k h.c135, fun o => (World.frozen?_of_block (a := ⟨Q, o, none⟩) hb).trans (h.fz o)⟩
theorem Q0.drew {w : World} {Q size maxC : Nat} (h : Q0 w Q size maxC) : Q0 w.drew Q size maxC := ⟨h.c0, h.c1, h.c66, h.c67, h.c132, h.c133, h.c134, h.c135, h.fz⟩
theorem Q0.laid {w : World} {Q size maxC : Nat} (h : Q0 w Q size maxC) (R : Nat) : Qs (((w.setCell ⟨Q, 67, none⟩ (.pointer (some ⟨R, 0, none⟩))).setCell ⟨Q, 133, none⟩ (.pointer (some ⟨R, 0, none⟩))).drew.setCell ⟨Q, 135, none⟩ (.int .u64 size)) Q size maxC 0 R 0 R 0 size :=
  ⟨cell_setCell (cell_setCell (cell_setCell h.c0 (by omega)) (by omega)) (by omega), cell_setCell (cell_setCell (cell_setCell h.c1 (by omega)) (by omega)) (by omega), cell_setCell (cell_setCell (cell_setCell h.c66 (by omega)) (by omega)) (by omega),
   cell_setCell (cell_setCell (World.cell?_setCell_same _ _ _ h.c67) (by omega)) (by omega), cell_setCell (cell_setCell (cell_setCell h.c132 (by omega)) (by omega)) (by omega), cell_setCell (World.cell?_setCell_same _ _ _ (cell_setCell h.c133 (by omega))) (by omega),
   cell_setCell (cell_setCell (cell_setCell h.c134 (by omega)) (by omega)) (by omega), World.cell?_setCell_same _ _ _ (cell_setCell (cell_setCell h.c135 (by omega)) (by omega)), fun k => by rw [World.frozen?_setCell]; show ((w.setCell _ _).setCell _ _).frozen? _ = false; rw [World.frozen?_setCell, World.frozen?_setCell]; exact h.fz k⟩

theorem cell_of {w : World} {b o : Nat} {c : Array Value} {t : TypeId} {f : Nat × Nat} (h : w.heap[b]? = some (.cells c t f)) : w.cell? ⟨b, o, none⟩ = c[o]? := by
  simp [World.cell?, h]

theorem two_set {c : Array Value} {x y v : Value} {o : Nat} (h : c[o]? = some v) (h0 : 0 ≠ o) (h1 : 1 ≠ o) : ((c.setIfInBounds 0 x).setIfInBounds 1 y)[o]? = some v := by
  rw [Array.getElem?_setIfInBounds, if_neg h1, Array.getElem?_setIfInBounds, if_neg h0]; exact h

theorem q0_new (w : World) (size : Nat) : Q0 (w.alloc (.cells ((Yba.zeroCells110.setIfInBounds 0 (.int .u64 size)).setIfInBounds 1 (.int .u64 2)) 110)) w.heap.size size 2 := by
  have hh := heap_new w (.cells ((Yba.zeroCells110.setIfInBounds 0 (.int .u64 size)).setIfInBounds 1 (.int .u64 2)) 110)
  refine ⟨?_, ?_, (cell_of hh).trans (two_set z66 (by omega) (by omega)), (cell_of hh).trans (two_set z67 (by omega) (by omega)), (cell_of hh).trans (two_set z132 (by omega) (by omega)), (cell_of hh).trans (two_set z133 (by omega) (by omega)), (cell_of hh).trans (two_set z134 (by omega) (by omega)), (cell_of hh).trans (two_set z135 (by omega) (by omega)), fun k => by simp only [World.frozen?, hh]; simp⟩
  · refine (cell_of hh).trans ?_
    rw [Array.getElem?_setIfInBounds, if_neg (by omega), Array.getElem?_setIfInBounds, if_pos rfl, if_pos (by rw [z0]; omega)]
  · refine (cell_of hh).trans ?_
    rw [Array.getElem?_setIfInBounds, if_pos rfl, if_pos (by rw [Array.size_setIfInBounds, z0]; omega)]
    rfl

def maxOf (Q : Nat) (w : World) : Nat := match w.cell? ⟨Q, 1, none⟩ with
  | some (.int _ m) => m.toNat
  | _ => 0

set_option maxHeartbeats 1000000 in
set_option maxRecDepth 100000 in
theorem newQueue_at (size : Nat) (hs : size ≤ 99) (w : World) :
    Calls Yba.prog 11 #[.int .i64 (size : Int)] w fun e w' => ∃ Q R C k L, e = .returned (.pointer (some ⟨Q, 0, none⟩)) ∧ w.heap.size ≤ Q ∧ w.heap.size ≤ R ∧ w.heap.size ≤ C ∧ Q ≠ R ∧ Q ≠ C ∧ 1 ≤ k ∧ k ≤ 7 ∧ size ≤ 2 ^ k ∧ L = min (2 ^ k) 64 ∧ Qs w' Q size (2 ^ k) 0 R 0 R 0 size ∧ Rs w' R C 0 L none (fun j => j) (fun _ => 0) ∧ Touch [] w w' := by
  go_enter Yba.func11, Yba.ntmps11
  go_upto_region 1 with fail
  go_wp2
  obtain ⟨W, hW⟩ : ∃ W, W = w.alloc (.cells ((Yba.zeroCells110.setIfInBounds 0 (.int .u64 size)).setIfInBounds 1 (.int .u64 2)) 110) := ⟨_, rfl⟩
  have hQ : Q0 W w.heap.size size 2 := by rw [hW]; exact q0_new w size
  have hT : Touch [] w W := by rw [hW]; exact (Touch.refl _ _).alloc _
  rw [← hW]
  have HQ := hide hQ
  have HT := hide hT
  clear hW hQ hT
  go_loopw [9] (fun _ wr => ∃ k : Nat, 1 ≤ k ∧ k ≤ 7 ∧ Q0 wr w.heap.size size (2 ^ k) ∧ Touch [] w wr) (fun _ wr => 200 - maxOf w.heap.size wr)
  case atStart => exact ⟨1, by omega, by omega, HQ.out, HT.out⟩
  case round =>
    clear HQ HT
    obtain ⟨k, hk1, hk7, hQ, hT⟩ := hrel
    have c0 := hQ.c0
    have c1 := hQ.c1
    have HQ := hide hQ
    have HT := hide hT
    obtain ⟨m, hm⟩ : ∃ m, m = 2 ^ k := ⟨_, rfl⟩
    rw [← hm] at c1
    have hmb : m ≤ 128 := by rw [hm]; exact Nat.pow_le_pow_right (by omega) hk7
    have HM := hide hm
    clear hQ hT hm
    by_cases hlt : m < size
    · have fz1 := HQ.out.fz 1
      have hI : decide ((m : Int) < (size : Int)) = true := by simp; omega
      go_upto_region 2 with fail
      have h62 : decide ((m : Int) < 4611686018427387904) = true := by simp; omega
      go_region
      clear hI h62
      go_wp2
      go_roundw
      case rel =>
        have hk6 : k ≤ 6 := by
          rcases Nat.lt_or_ge k 7 with h | h
          · omega
          · have : k = 7 := by omega
            subst this
            have := HM.out
            omega
        refine ⟨k + 1, by omega, by omega, ?_, ?_⟩
        · have h2 := HQ.out.drew.setMax (2 ^ (k + 1))
          have e : ((2 ^ (k + 1) : Nat) : Int) = (m : Int) * 2 := by rw [HM.out, Nat.pow_succ]; omega
          rw [e] at h2
          exact h2
        · exact HT.out.drew.setNew (Nat.le_refl _) _
      case measure =>
        have e1 : maxOf w.heap.size wr = m := by simp [maxOf, c1]
        have e2 : ∀ x : Nat, maxOf w.heap.size (wr.drew.setCell ⟨w.heap.size, 1, none⟩ (.int .u64 x)) = x := by
          intro x
          have h2 := (HQ.out.drew.setMax x).c1
          simp [maxOf, h2]
        have e3 := e2 (m * 2)
        simp only [Int.natCast_mul, Int.cast_ofNat_Int] at e3
        have e4 : maxOf w.heap.size (wr.setCell ⟨w.heap.size, 1, none⟩ (.int .u64 ((m : Int) * 2))).drew = m * 2 := e3
        rw [e1, e4]
        have := HM.out
        have : 0 < 2 ^ k := Nat.pow_pos (by omega)
        omega
    · have hI : decide ((m : Int) < (size : Int)) = false := by simp; omega
      go_upto_region 2 with fail
      go_region
      go_upto_region 4 with fail
      clear hI
      have c1' : wr.drew.cell? ⟨w.heap.size, 1, none⟩ = some (.int .u64 m) := c1
      clear c1
      have hQd := HQ.out.drew
      have hTd := HT.out.drew
      have hm2 : 2 ≤ m := by
        rw [HM.out]
        exact Nat.pow_le_pow_right (n := 2) (i := 1) (by omega) hk1
      obtain ⟨wd, hwd⟩ : ∃ wd, wd = wr.drew := ⟨_, rfl⟩
      rw [← hwd] at hQd hTd c1' ⊢
      clear hwd HQ HT c0
      have HQD := hide hQd
      have HTD := hide hTd
      have hQlt : w.heap.size < wd.heap.size := World.block_lt_of_cell? _ _ c1'
      clear hQd hTd
      obtain ⟨L, hL⟩ : ∃ L, L = min m 64 := ⟨_, rfl⟩
      have hLI : min (m : Int) 64 = (L : Int) := by omega
      have HN := hide (newRing_at L (by omega) (by omega) wd)
      go_cut [4] (fun v wc => ∃ R C, v = .pointer (some ⟨R, 0, none⟩) ∧ wd.heap.size ≤ R ∧ wd.heap.size ≤ C ∧ Rs wc R C 0 L none (fun j => j) (fun _ => 0) ∧ Touch [] wd wc)
      case first =>
        by_cases h64 : m ≤ 64
        · obtain rfl : L = m := by omega
          clear hL hLI
          have hmin : min (L : Int) 64 = (L : Int) := by omega
          go_wp2_with (go_at_call 26; refine Calls.mono HN.out ?_; rintro e w' ⟨R, C, rfl, hR, hC, hRs, hTn⟩)
          go_meet
          case rel => exact ⟨R, C, rfl, hR, hC, hRs, hTn⟩
        · obtain rfl : L = 64 := by omega
          clear hL
          go_wp2_with (go_at_call 26; refine Calls.mono HN.out ?_; rintro e w' ⟨R, C, rfl, hR, hC, hRs, hTn⟩)
          go_meet
          case rel => exact ⟨R, C, rfl, hR, hC, hRs, hTn⟩
      case rest =>
        obtain ⟨R, C, rfl, hR, hC, hRs, hTn⟩ := hcut
        have hQ2 : Q0 wc w.heap.size size m := by
          have := HQD.out.of_block (hTn.block _ hQlt (by simp))
          rw [← HM.out] at this
          exact this
        have HLM := hide hL
        clear hL
        have HQ2 := hide hQ2
        have HRS := hide hRs
        have HTN := hide (HTD.out.trans hTn)
        have hfin := hQ2.laid R
        have HF := hide hfin
        have hneR : w.heap.size ≠ R := by omega
        have hneC : w.heap.size ≠ C := by omega
        have HS1 := hide (storep_at w.heap.size 67 R _ _ _ _ _ wc hQ2.c67 (hQ2.fz _) hRs.blk)
        have HS2 := hide (storep_at w.heap.size 133 R _ _ _ _ _ (wc.setCell ⟨w.heap.size, 67, none⟩ (.pointer (some ⟨R, 0, none⟩))) (cell_setCell hQ2.c133 (by omega)) (by rw [World.frozen?_setCell]; exact hQ2.fz _) ((Below.heap_setCell _ _ _ _ (by simp only; omega)).trans hRs.blk))
        have HS3 := hide (store_at w.heap.size 135 _ (size : Int) ((wc.setCell ⟨w.heap.size, 67, none⟩ (.pointer (some ⟨R, 0, none⟩))).setCell ⟨w.heap.size, 133, none⟩ (.pointer (some ⟨R, 0, none⟩))).drew (cell_setCell (cell_setCell hQ2.c135 (by omega)) (by omega)) (by show ((wc.setCell _ _).setCell _ _).frozen? _ = false; rw [World.frozen?_setCell, World.frozen?_setCell]; exact hQ2.fz _))
        have d0 : ((wc.setCell ⟨w.heap.size, 67, none⟩ (.pointer (some ⟨R, 0, none⟩))).setCell ⟨w.heap.size, 133, none⟩ (.pointer (some ⟨R, 0, none⟩))).cell? ⟨w.heap.size, 0, none⟩ = some (.int .u64 size) := cell_setCell (cell_setCell hQ2.c0 (by omega)) (by omega)
        have HD0 := hide d0
        clear hQ2 hRs hTn hfin HN hLI d0
        go_upto_region 7 with (go_at_call 27; first | (refine Calls.mono HS1.out ?_; rintro e w' ⟨rfl, rfl⟩) | (refine Calls.mono HS2.out ?_; rintro e w' ⟨rfl, rfl⟩))
        have d0 := HD0.out
        go_region_with (go_at_call 28; refine Calls.mono HS3.out ?_; rintro e w' ⟨rfl, rfl⟩)
        all_goals
          go_wp2
          go_ret
          refine ⟨w.heap.size, R, C, k, L, rfl, Nat.le_refl _, by omega, by omega, hneR, hneC, hk1, hk7, by rw [← HM.out]; omega, by rw [← HM.out]; exact HLM.out, ?_, ?_, ?_⟩
          · rw [← HM.out]; exact HF.out
          · have hb : ∀ i, i ≠ w.heap.size → (((wc.setCell ⟨w.heap.size, 67, none⟩ (.pointer (some ⟨R, 0, none⟩))).setCell ⟨w.heap.size, 133, none⟩ (.pointer (some ⟨R, 0, none⟩))).drew.setCell ⟨w.heap.size, 135, none⟩ (.int .u64 size)).heap[i]? = wc.heap[i]? := by
              intro i hi
              rw [Below.heap_setCell _ _ _ _ hi]
              show ((wc.setCell _ _).setCell _ _).heap[i]? = _
              rw [Below.heap_setCell _ _ _ _ hi, Below.heap_setCell _ _ _ _ hi]
            exact ⟨(hb R (Ne.symm hneR)).trans HRS.out.blk, HRS.out.cs.of_block (hb C (Ne.symm hneC)), HRS.out.ne⟩
          · exact (((HTN.out.setNew (Nat.le_refl _) _).setNew (Nat.le_refl _) _).drew).setNew (Nat.le_refl _) _
end Go.Proofs.Ybulkeca
