import Derived.Test.YbulkecaGrow
set_option linter.unusedVariables false
namespace Go.Proofs.Ybulkeca
open Go.RowKit

theorem and_top (t : Nat) (ht : t ≤ 4294967296) : bits .and .u64 (t : Int) 9223372036854775808 = 0 := by
  rw [show (9223372036854775808 : Int) = ((9223372036854775808 : Nat) : Int) by rfl, bits_and_u64_nat _ _ (by omega) (by omega)]
  have : t &&& 9223372036854775808 = 0 := by
    apply Nat.eq_of_testBit_eq
    intro i
    rw [Nat.testBit_and, show (9223372036854775808 : Nat) = 2 ^ 63 by rfl, Nat.testBit_two_pow, Nat.zero_testBit]
    by_cases h : 63 = i
    · subst h
      rw [Nat.testBit_lt_two_pow (by omega)]
      simp
    · simp [h]
  rw [this]
  rfl

/-- The road to the tail's cell. -/
theorem Rs.mask {w : World} {R C base L : Nat} {nx : Option Addr} {sq : Nat → Nat} {tk : Nat → Int} (h : Rs w R C base L nx sq tk) : w.cell? ⟨R, 0, none⟩ = some (.int .u64 base) ∧ w.cell? ⟨R, 1, none⟩ = some (.int .u64 ((L : Int) - 1)) ∧ w.cell? ⟨R, 2, none⟩ = some (.slice (some ⟨C, 0, none⟩) L L) := by
  refine ⟨?_, ?_, ?_⟩ <;> simp [World.cell?, h.blk, ringObj]

set_option maxHeartbeats 1000000 in
theorem push_fit (w : World) (Q size maxC head hr tail tr res lim C base L k c : Nat) (nx : Option Addr) (sq : Nat → Nat) (tk : Nat → Int) (x : Int) (h : Qs w Q size maxC head hr tail tr res lim) (hr_ : Rs w tr C base L nx sq tk) (hQC : Q ≠ C) (hQR : Q ≠ tr) (hk : L = 2 ^ k) (hL : L ≤ 4096) (hb : base ≤ tail) (ht : tail ≤ 4294967296)
    (hc : c = (tail - base) % L) (hsq : sq c = tail - base) :
    Calls Yba.prog 14 #[.pointer (some ⟨Q, 0, none⟩), .int .i64 x] w fun e w' => e = .returned (.tuple #[]) ∧ Qs w' Q size maxC head hr (tail + 1) tr res lim ∧ Rs w' tr C base L nx (fun j => if j = c then tail - base + 1 else sq j) (fun j => if j = c then x else tk j) ∧ Touch [Q, C] w w' := by
  obtain ⟨m0, m1, m2⟩ := hr_.mask
  have hlt : c < L := by rw [hc]; exact Nat.mod_lt _ (by rw [hk]; exact Nat.pow_pos (by omega))
  have hand := and_mask (tail - base) k L hk hL (by omega)
  rw [← hc] at hand
  have htop := and_top tail ht
  have e1 : (tail : Int) - (base : Int) = ((tail - base : Nat) : Int) := by omega
  obtain ⟨i, hi⟩ : ∃ i, i = tail - base := ⟨_, rfl⟩
  rw [← hi] at hand e1 hsq ⊢
  have K1 := hide (load_at Q 132 tail w h.c132)
  have K2 := hide (loadp_at Q 133 tr _ _ _ _ w h.c133 hr_.blk)
  have hs := hr_.cs.seq c hlt
  rw [hsq] at hs
  have K3 := hide (load_at C (c * 2) i w.drew hs)
  obtain ⟨w2, hw2⟩ : ∃ w2, w2 = w.drew.setCell ⟨Q, 132, none⟩ (.int .u64 ((tail + 1 : Nat) : Int)) := ⟨_, rfl⟩
  have K4 := named (cas_at Q 132 tail ((tail + 1 : Nat) : Int) w.drew h.c132 (h.fz _)) hw2
  have hQ2 : Qs w2 Q size maxC head hr (tail + 1) tr res lim := by rw [hw2]; exact h.drew.setTail _
  have hR2 : Rs w2 tr C base L nx sq tk := by
    rw [hw2]
    exact Rs.of_blocks (w := w) hr_ (Below.heap_setCell w.drew _ _ _ (Ne.symm hQR)) (Below.heap_setCell w.drew _ _ _ (Ne.symm hQC))
  have hT2 : Touch [Q, C] w w2 := by rw [hw2]; exact ((Touch.refl _ _).drew).setCell (by simp) _
  have a1 : w2.cell? ⟨C, c * 2 + 1, none⟩ = some (.int .i64 (tk c)) := hR2.cs.tsk c hlt
  have z1 : w2.frozen? ⟨C, c * 2 + 1, none⟩ = false := hR2.cs.fz _
  obtain ⟨w3, hw3⟩ : ∃ w3, w3 = w2.setCell ⟨C, c * 2 + 1, none⟩ (.int .i64 x) := ⟨_, rfl⟩
  have hR3 : Rs w3 tr C base L nx sq (fun j => if j = c then x else tk j) := by
    rw [hw3]
    exact ⟨(Below.heap_setCell _ _ _ _ hR2.ne).trans hR2.blk, hR2.cs.setTsk hlt x, hR2.ne⟩
  obtain ⟨w4, hw4⟩ : ∃ w4, w4 = w3.setCell ⟨C, c * 2, none⟩ (.int .u64 ((i + 1 : Nat) : Int)) := ⟨_, rfl⟩
  have K5 := named (store_at C (c * 2) _ ((i + 1 : Nat) : Int) w3 (hR3.cs.seq c hlt) (hR3.cs.fz _)) hw4
  have HFIN := hide (show Qs w4 Q size maxC head hr (tail + 1) tr res lim ∧ Rs w4 tr C base L nx (fun j => if j = c then i + 1 else sq j) (fun j => if j = c then x else tk j) ∧ Touch [Q, C] w w4 by
    refine ⟨hQ2.of_block ?_, ?_, ?_⟩
    · rw [hw4, hw3, Below.heap_setCell _ _ _ _ hQC, Below.heap_setCell _ _ _ _ hQC]
    · rw [hw4]
      exact ⟨(Below.heap_setCell _ _ _ _ hR3.ne).trans hR3.blk, hR3.cs.setSeq hlt (i + 1), hR3.ne⟩
    · rw [hw4, hw3]
      exact (hT2.setCell (by simp) _).setCell (by simp) _)
  have HW3 := hide hw3
  clear h hr_ hw2 hQ2 hR2 hT2 hw3 hR3 hw4 hs hk hsq hi hc
  go_enter Yba.func14, Yba.ntmps14
  go_wp2
  refine wp_loop_rounds 1 ?_
  rw [rounds_succ]
  go_upto_region 6 with (go_at_call 29; refine Calls.mono K1.out ?_; rintro e w' ⟨rfl, rfl⟩)
  go_upto_region 8 with (go_at_call 32; refine Calls.mono K2.out ?_; rintro e w' ⟨rfl, rfl⟩)
  go_region
  go_upto_region 11 with (go_at_call 29; refine Calls.mono K3.out ?_; rintro e w' ⟨rfl, rfl⟩)
  go_upto_region 12 with (go_at_call 30; refine Calls.mono K4.out ?_; rintro e w' ⟨rfl, rfl⟩)
  go_upto_region 13 with fail
  rw [← HW3.out]
  go_wp2_with (go_at_call 28; refine Calls.mono K5.out ?_; rintro e w' ⟨rfl, rfl⟩)
  refine bodyPost_ret (results_none rfl _ _ _) rfl ?_
  exact ⟨rfl, HFIN.out⟩

end Go.Proofs.Ybulkeca
