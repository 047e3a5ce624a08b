import Derived.Test.YbulkecaHead
set_option linter.unusedVariables false
namespace Go.Proofs.Ybulkeca
open Go.RowKit

theorem Rs.of_blocks {w w' : World} {R C base L : Nat} {nx : Option Addr} {sq : Nat → Nat} {tk : Nat → Int} (h : Rs w R C base L nx sq tk) (h1 : w'.heap[R]? = w.heap[R]?) (h2 : w'.heap[C]? = w.heap[C]?) : Rs w' R C base L nx sq tk :=
  ⟨h1.trans h.blk, h.cs.of_block h2, h.ne⟩

set_option maxHeartbeats 1000000 in
theorem pop_yes (w w1 : World) (Q size maxC head hr tail tr res lim R C base L c i : Nat) (nx : Option Addr) (sq : Nat → Nat) (tk : Nat → Int) (h0 : w.cell? ⟨Q, 66, none⟩ = some (.int .u64 head)) (h : Qs w1 Q size maxC head hr tail tr res lim) (hr_ : Rs w1 R C base L nx sq tk) (hQC : Q ≠ C) (hQR : Q ≠ R)
    (hcell : Calls Yba.prog 34 #[.pointer (some ⟨Q, 0, none⟩), .int .u64 (head : Int)] w fun e w' => e = .returned (.tuple #[.pointer (some ⟨R, 0, none⟩), .pointer (some ⟨C, c * 2, none⟩), .int .u64 (i : Int)]) ∧ w1 = w')
    (hc : c < L) (hL : L ≤ 4096) (hsq : sq c = i + 1) (hi : i ≤ 4294967296) (hh : head ≤ 4294967296) :
    Calls Yba.prog 15 #[.pointer (some ⟨Q, 0, none⟩)] w fun e w' => e = .returned (.tuple #[.int .i64 (tk c), .int .u64 (head : Int), .bool true]) ∧ Qs w' Q size maxC (head + 1) hr tail tr res lim ∧ Rs w' R C base L nx (fun j => if j = c then i + L else sq j) (fun j => if j = c then 0 else tk j) ∧ Touch [Q, C] w1 w' := by
  have HH := hide hcell
  have HLD := hide (load_at Q 66 head w h0)
  have hs := hr_.cs.seq c hc
  rw [hsq] at hs
  have HLS := hide (load_at C (c * 2) ((i + 1 : Nat) : Int) w1 hs)
  have HCS := hide (cas_at Q 66 head ((head + 1 : Nat) : Int) w1 h.c66 (h.fz _))
  obtain ⟨WA, hWA⟩ : ∃ WA, WA = w1.setCell ⟨Q, 66, none⟩ (.int .u64 ((head + 1 : Nat) : Int)) := ⟨_, rfl⟩
  have HCS2 : Hid (Calls Yba.prog 30 #[.pointer (some ⟨Q, 66, none⟩), .int .u64 (head : Int), .int .u64 ((head : Int) + 1)] w1 fun e w' => e = .returned (.bool true) ∧ WA = w') := hide (Calls.mono HCS.out (fun e w' ⟨h1, h2⟩ => ⟨h1, hWA.trans h2.symm⟩))
  have hQA : Qs WA Q size maxC (head + 1) hr tail tr res lim := by rw [hWA]; exact h.setHead _
  have hRA : Rs WA R C base L nx sq tk := by
    rw [hWA]
    exact hr_.of_blocks (Below.heap_setCell _ _ _ _ (Ne.symm hQR)) (Below.heap_setCell _ _ _ _ (Ne.symm hQC))
  have hTA : Touch [Q, C] w1 WA := by rw [hWA]; exact (Touch.refl _ _).setCell (by simp) _
  have a1 : WA.cell? ⟨C, c * 2 + 1, none⟩ = some (.int .i64 (tk c)) := hRA.cs.tsk c hc
  have z1 : WA.frozen? ⟨C, c * 2 + 1, none⟩ = false := hRA.cs.fz _
  have m1 : WA.cell? ⟨R, 1, none⟩ = some (.int .u64 ((L : Int) - 1)) := by simp [World.cell?, hRA.blk, ringObj]
  have hRB : Rs (WA.setCell ⟨C, c * 2 + 1, none⟩ (.int .i64 0)) R C base L nx sq (fun j => if j = c then 0 else tk j) :=
    ⟨(Below.heap_setCell _ _ _ _ hRA.ne).trans hRA.blk, hRA.cs.setTsk hc 0, hRA.ne⟩
  have m2 : (WA.setCell ⟨C, c * 2 + 1, none⟩ (.int .i64 0)).cell? ⟨R, 1, none⟩ = some (.int .u64 ((L : Int) - 1)) := by simp [World.cell?, hRB.blk, ringObj]
  have HRB := hide hRB
  have HQA := hide hQA
  have HTA := hide hTA
  have HST := hide (store_at C (c * 2) _ ((i + L : Nat) : Int) (WA.setCell ⟨C, c * 2 + 1, none⟩ (.int .i64 0)).drew (hRB.cs.seq c hc) (hRB.cs.fz _))
  have HM2 := hide m2
  have HV := hide (show IntKind.u64.wrap (IntKind.u64.wrap ((i : Int) + ((L : Int) - 1)) + 1) = ((i + L : Nat) : Int) by simp only [IntKind.wrap_u64]; omega)
  clear h hr_ hcell hs HCS hWA hQA hRA hTA hRB h0 hsq m1 m2
  go_enter Yba.func15, Yba.ntmps15
  go_wp2
  refine wp_loop_rounds 1 ?_
  rw [rounds_succ]
  go_upto_region 10 with (first
    | (go_at_call 29; refine Calls.mono HLD.out ?_; rintro e w' ⟨rfl, rfl⟩)
    | (go_at_call 34; refine Calls.mono HH.out ?_; rintro e w' ⟨rfl, rfl⟩)
    | (go_at_call 29; refine Calls.mono HLS.out ?_; rintro e w' ⟨rfl, rfl⟩)
    | (go_at_call 30; refine Calls.mono HCS2.out ?_; rintro e w' ⟨rfl, rfl⟩))
  have m2 := HM2.out
  go_region_with (go_at_call 28; rw [HV.out]; refine Calls.mono HST.out ?_; rintro e w' ⟨rfl, rfl⟩)
  all_goals
    go_wp2
    go_ret3
    refine ⟨rfl, HQA.out.of_block ?_, ⟨(Below.heap_setCell _ _ _ _ HRB.out.ne).trans HRB.out.blk, Cs.setSeq (w := (WA.setCell ⟨C, c * 2 + 1, none⟩ (.int .i64 0)).drew) ⟨HRB.out.cs.seq, HRB.out.cs.tsk, HRB.out.cs.fz⟩ hc (i + L), HRB.out.ne⟩, ((HTA.out.setCell (by simp) _).drew).setCell (by simp) _⟩
    exact (Below.heap_setCell (WA.setCell ⟨C, c * 2 + 1, none⟩ (.int .i64 0)) ⟨C, c * 2, none⟩ _ Q hQC).trans (Below.heap_setCell _ _ _ _ hQC)

set_option maxHeartbeats 1000000 in
theorem pop_no (w w1 : World) (Q head R C c i x : Nat) (h0 : w.cell? ⟨Q, 66, none⟩ = some (.int .u64 head))
    (hcell : Calls Yba.prog 34 #[.pointer (some ⟨Q, 0, none⟩), .int .u64 (head : Int)] w fun e w' => e = .returned (.tuple #[.pointer (some ⟨R, 0, none⟩), .pointer (some ⟨C, c * 2, none⟩), .int .u64 (i : Int)]) ∧ w1 = w')
    (hs : w1.cell? ⟨C, c * 2, none⟩ = some (.int .u64 x)) (hx : x < i + 1) (hi : i ≤ 4294967296) :
    Calls Yba.prog 15 #[.pointer (some ⟨Q, 0, none⟩)] w fun e w' => e = .returned (.tuple #[.int .i64 0, .int .u64 0, .bool false]) ∧ w1 = w' := by
  have HH := hide hcell
  have HLD := hide (load_at Q 66 head w h0)
  have HLS := hide (load_at C (c * 2) x w1 hs)
  have b1 : ((x : Int) == (i : Int) + 1) = false := by simp; omega
  have b2 : (x : Int) < (i : Int) + 1 := by omega
  clear hcell hs h0
  go_enter Yba.func15, Yba.ntmps15
  go_wp2
  refine wp_loop_rounds 1 ?_
  rw [rounds_succ]
  go_wp2_with (first
    | (go_at_call 29; refine Calls.mono HLD.out ?_; rintro e w' ⟨rfl, rfl⟩)
    | (go_at_call 34; refine Calls.mono HH.out ?_; rintro e w' ⟨rfl, rfl⟩)
    | (go_at_call 29; refine Calls.mono HLS.out ?_; rintro e w' ⟨rfl, rfl⟩))
  go_ret3
  exact ⟨rfl, rfl⟩
end Go.Proofs.Ybulkeca
