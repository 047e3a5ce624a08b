import Derived.Test.YbulkecaSplit
set_option linter.unusedVariables false
namespace Go.Proofs.Ybulkeca
open Go.RowKit

theorem wpOp_want {P : Program} {ops : Array Oper} {Q : Exit → Act → World → Prop} {K : Act → World → Prop} {a : Act} {w : World} {i : Nat} {o : Oper} (ho : ops[i]? = some o) (hw : Region.wanted o (yielded ops a.tmps) = true) (h : o.wp P a w K Q) : wpOp P ops Q i K a w := by
  unfold wpOp
  rw [ho]
  simp only [hw, if_true]
  exact .inl h

theorem Qs.drewN {w : World} {Q size maxC head hr tail tr res lim : Nat} (h : Qs w Q size maxC head hr tail tr res lim) (n : Nat) : Qs (w.drewN n) Q size maxC head hr tail tr res lim := ⟨h.c0, h.c1, h.c66, h.c67, h.c132, h.c133, h.c134, h.c135, h.fz⟩
theorem Rs.drewN {w : World} {R C base L : Nat} {nx : Option Addr} {sq : Nat → Nat} {tk : Nat → Int} (h : Rs w R C base L nx sq tk) (n : Nat) : Rs (w.drewN n) R C base L nx sq tk := ⟨h.blk, ⟨h.cs.seq, h.cs.tsk, h.cs.fz⟩, h.ne⟩

set_option maxRecDepth 100000 in
set_option maxHeartbeats 1000000 in
theorem push_grow (w : World) (Q size maxC head hr tail tr res lim C base L k c y : Nat) (sq : Nat → Nat) (tk : Nat → Int) (x : Int) (h : Qs w Q size maxC head hr tail tr res lim) (hr_ : Rs w tr C base L none sq tk) (hQC : Q ≠ C) (hQR : Q ≠ tr) (hk : L = 2 ^ k) (hL0 : 1 ≤ L) (hL : L ≤ 2048) (hb : base ≤ tail) (ht : tail ≤ 4294967296)
    (hc : c = (tail - base) % L) (hsq : sq c = y) (hy : y < tail - base) (hLm : L < maxC) (hm : maxC ≤ 4294967296) (hh : head + L ≤ tail) :
    Calls Yba.prog 14 #[.pointer (some ⟨Q, 0, none⟩), .int .i64 x] w fun e w' => e = .returned (.tuple #[]) ∧ ∃ R2 C2, w.heap.size ≤ R2 ∧ w.heap.size ≤ C2 ∧
      Qs w' Q size maxC head hr (tail + 1) R2 res lim ∧ Rs w' tr C base L (some ⟨R2, 0, none⟩) sq tk ∧ Rs w' R2 C2 tail (2 * L) none (fun j => if j = 0 then 1 else j) (fun j => if j = 0 then x else 0) ∧ Touch [Q, tr] w w' := by
  obtain ⟨m0, m1, m2⟩ := hr_.mask
  have c1 := h.c1
  have hlt : c < L := by rw [hc]; exact Nat.mod_lt _ (by omega)
  have hand := and_mask (tail - base) k L hk (by omega) (by omega)
  rw [← hc] at hand
  have htop := and_top tail ht
  have e1 : (tail : Int) - (base : Int) = ((tail - base : Nat) : Int) := by omega
  obtain ⟨i, hi⟩ : ∃ i, i = tail - base := ⟨_, rfl⟩
  rw [← hi] at hand e1 hy
  have K1 := hide (load_at Q 132 tail w h.c132)
  have K2 := hide (loadp_at Q 133 tr _ _ _ _ w h.c133 hr_.blk)
  have hs := hr_.cs.seq c hlt
  rw [hsq] at hs
  have K3 := hide (load_at C (c * 2) y w.drew hs)
  have K4 : Hid (∀ n, Calls Yba.prog 29 #[.pointer (some ⟨Q, 66, none⟩)] (w.drew.drewN n) fun e w' => e = .returned (.int .u64 head) ∧ w' = w.drew.drewN n) := hide (fun n => (load_at Q 66 head (w.drew.drewN n) (h.drew.drewN n).c66).mono fun e w' hh => ⟨hh.1, hh.2.symm⟩)
  have K5 := hide (fun n => grow_at (w.drew.drewN n) Q size maxC head hr tail tr res lim C base L sq tk x (h.drew.drewN n) (hr_.drew.drewN n) hQC hQR hL0 hL ht)
  have n1 : ((y : Int) == (i : Int)) = false := by simp; omega
  have n2 : (y : Int) < (i : Int) := by omega
  have n3 : decide ((L : Int) < (maxC : Int)) = true := by simp; omega
  have n4 : decide ((L : Int) ≤ (tail : Int) - (head : Int)) = true := by simp; omega
  have hwL : IntKind.u64.wrap (L : Int) = (L : Int) := by rw [IntKind.wrap_u64]; omega
  have hwD : IntKind.u64.wrap ((tail : Int) - (head : Int)) = (tail : Int) - (head : Int) := by rw [IntKind.wrap_u64]; omega
  clear h hr_ hs hk hsq hi hc
  go_enter Yba.func14, Yba.ntmps14
  go_wp2
  refine wp_loop_rounds 1 ?_
  rw [rounds_succ]
  go_upto_region 6 with (go_at_call 29; refine Calls.mono K1.out ?_; rintro e w' ⟨rfl, rfl⟩)
  go_upto_region 8 with (go_at_call 32; refine Calls.mono K2.out ?_; rintro e w' ⟨rfl, rfl⟩)
  go_region
  go_upto_region 15 with (go_at_call 29; refine Calls.mono K3.out ?_; rintro e w' ⟨rfl, rfl⟩)
  have e1L : w.drew.cell? ⟨tr, 2, none⟩ = some (.slice (some ⟨C, 0, none⟩) L L) := m2
  have e1M : w.drew.cell? ⟨Q, 1, none⟩ = some (.int .u64 maxC) := c1
  clear hand htop e1 K1 K2 K3 m0 m1 n1 n2 hlt hy hb hL0 hL hh hm ht
  obtain ⟨wd, hwd⟩ : ∃ wd, wd = w.drew := ⟨_, rfl⟩
  rw [← hwd] at e1L e1M K4 K5 ⊢
  have HWD := hide hwd
  clear hwd c1 m2
  refine wp_region_split 31 (by kernel_rfl) (by kernel_rfl) (by kernel_rfl) ?_
  simp only [List.take_succ_cons, List.take_zero]
  repeat (go_big_quiet_step ((go_at_call 29; exact Calls.quiet_of_same (K4.out _))))
  refine wpQuiet_nil ?_
  rintro w' ⟨nq, rfl⟩
  refine wpOp_want rfl rfl ?_
  unfold Oper.wp
  simp only [execOp]
  go_simp
  refine Calls.mono (K5.out nq) ?_
  rintro e w2 ⟨rfl, R2, C2, hR2, hC2, hf⟩
  refine wpOp_want rfl rfl ?_
  unfold Oper.wp
  simp only [execOp]
  go_simp
  go_wp2
  refine bodyPost_ret (results_none rfl _ _ _) rfl ?_
  obtain rfl := HWD.out
  exact ⟨rfl, R2, C2, hR2, hC2, hf.1, hf.2.1, hf.2.2.1, ⟨hf.2.2.2.os, hf.2.2.2.tape, hf.2.2.2.output, hf.2.2.2.size, hf.2.2.2.block⟩⟩
end Go.Proofs.Ybulkeca
