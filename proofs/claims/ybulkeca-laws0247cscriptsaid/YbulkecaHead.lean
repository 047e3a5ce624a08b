import Derived.Test.YbulkecaRing
import Derived.Laws.Bits64b
set_option linter.unusedVariables false
namespace Go.Proofs.Ybulkeca
open Go.RowKit

theorem and_mask (i k L : Nat) (hL : L = 2 ^ k) (hL2 : L ≤ 4096) (hi : i ≤ 4294967296) : bits .and .u64 (i : Int) ((L : Int) - 1) = ((i % L : Nat) : Int) := by
  have h0 : 0 < L := by rw [hL]; exact Nat.pow_pos (by omega)
  have e : ((L : Int) - 1) = ((L - 1 : Nat) : Int) := by omega
  rw [e, bits_and_u64_nat _ _ (by omega) (by omega), hL, Nat.and_two_pow_sub_one_eq_mod]

set_option maxHeartbeats 1000000 in
theorem reserve_no (w : World) (Q size maxC head hr tail tr res lim : Nat) (h : Qs w Q size maxC head hr tail tr res lim) (hb : res ≤ 4294967296) (hh : head ≤ 4294967296) (hz : size ≤ 4294967296) (hl : lim ≤ head + size) (hy : head + size ≤ res) :
    Calls Yba.prog 13 #[.pointer (some ⟨Q, 0, none⟩)] w fun e w' => e = .returned (.bool false) ∧ Qs w' Q size maxC head hr tail tr res lim ∧ Touch [Q] w w' := by
  have H := hide h
  have c0 := h.c0
  clear h
  have hlim : lim ≤ res := by omega
  have HLD := hide (load_at Q 66 head w.drew H.out.drew.c66)
  go_enter Yba.func13, Yba.ntmps13
  go_wp2
  refine wp_loop_rounds 1 ?_
  rw [rounds_succ]
  go_upto_region 3 with (first
    | (go_at_call 29; refine Calls.mono (load_at Q 134 res w H.out.c134) ?_; rintro e w' ⟨rfl, rfl⟩)
    | (go_at_call 29; refine Calls.mono (load_at Q 135 lim w H.out.c135) ?_; rintro e w' ⟨rfl, rfl⟩))
  go_region_with (go_at_call 29; refine Calls.mono HLD.out ?_; rintro e w' ⟨rfl, rfl⟩)
  all_goals
    go_wp2
    go_ret
    exact ⟨rfl, H.out.drew, (Touch.refl [Q] w).drew⟩

/-- headCell where the head lies in the head's own ring, the last one. -/
theorem head_last (w : World) (Q size maxC head hr tail tr res lim C base L k : Nat) (sq : Nat → Nat) (tk : Nat → Int) (pos : Nat) (h : Qs w Q size maxC head hr tail tr res lim) (hr_ : Rs w hr C base L none sq tk) (hk : L = 2 ^ k) (hL : L ≤ 4096) (hb : base ≤ pos) (hp : pos ≤ 4294967296) :
    Calls Yba.prog 34 #[.pointer (some ⟨Q, 0, none⟩), .int .u64 (pos : Int)] w fun e w' => e = .returned (.tuple #[.pointer (some ⟨hr, 0, none⟩), .pointer (some ⟨C, (pos - base) % L * 2, none⟩), .int .u64 ((pos - base : Nat) : Int)]) ∧ w' = w.drew := by
  have H := hide h
  have r0 : w.cell? ⟨hr, 0, none⟩ = some (.int .u64 base) := by simp [World.cell?, hr_.blk, ringObj]
  have r1 : w.cell? ⟨hr, 1, none⟩ = some (.int .u64 ((L : Int) - 1)) := by simp [World.cell?, hr_.blk, ringObj]
  have r2 : w.cell? ⟨hr, 2, none⟩ = some (.slice (some ⟨C, 0, none⟩) L L) := by simp [World.cell?, hr_.blk, ringObj]
  have r3 : w.cell? ⟨hr, 3, none⟩ = some (.pointer none) := by simp [World.cell?, hr_.blk, ringObj]
  have HLP := hide (loadp_at Q 67 hr _ _ _ _ w h.c67 hr_.blk)
  have HNL := hide (loadp_nil hr 3 w r3)
  have e1 : (pos : Int) - (base : Int) = ((pos - base : Nat) : Int) := by omega
  have hlt : (pos - base) % L < L := Nat.mod_lt _ (by rw [hk]; exact Nat.pow_pos (by omega))
  have hand := and_mask (pos - base) k L hk hL (by omega)
  have hnlt : ¬ ((pos : Int) < (base : Int)) := by omega
  clear h hr_ r3 hk
  obtain ⟨c, hc⟩ : ∃ c, c = (pos - base) % L := ⟨_, rfl⟩
  rw [← hc] at hand hlt ⊢
  clear hc
  go_enter Yba.func34, Yba.ntmps34
  go_wp2_with (go_at_call 32; refine Calls.mono HLP.out ?_; rintro e w' ⟨rfl, rfl⟩)
  refine wp_loop_rounds 1 ?_
  rw [rounds_succ]
  go_upto_region 9 with (go_at_call 32; refine Calls.mono HNL.out ?_; rintro e w' ⟨rfl, rfl⟩)
  go_region
  go_wp2
  go_ret3
  exact ⟨rfl, rfl⟩

/-- headCell where the head lies in the head's own ring, with another behind it. -/
theorem head_stay (w : World) (Q size maxC head hr tail tr res lim C base L k R2 C2 base2 L2 : Nat) (nx2 : Option Addr) (sq sq2 : Nat → Nat) (tk tk2 : Nat → Int) (pos : Nat) (h : Qs w Q size maxC head hr tail tr res lim) (hr_ : Rs w hr C base L (some ⟨R2, 0, none⟩) sq tk) (hr2 : Rs w R2 C2 base2 L2 nx2 sq2 tk2) (hk : L = 2 ^ k) (hL : L ≤ 4096) (hb : base ≤ pos) (hb2 : pos < base2) (hp : pos ≤ 4294967296) :
    Calls Yba.prog 34 #[.pointer (some ⟨Q, 0, none⟩), .int .u64 (pos : Int)] w fun e w' => e = .returned (.tuple #[.pointer (some ⟨hr, 0, none⟩), .pointer (some ⟨C, (pos - base) % L * 2, none⟩), .int .u64 ((pos - base : Nat) : Int)]) ∧ w' = w.drew := by
  have r0 : w.cell? ⟨hr, 0, none⟩ = some (.int .u64 base) := by simp [World.cell?, hr_.blk, ringObj]
  have r1 : w.cell? ⟨hr, 1, none⟩ = some (.int .u64 ((L : Int) - 1)) := by simp [World.cell?, hr_.blk, ringObj]
  have r2 : w.cell? ⟨hr, 2, none⟩ = some (.slice (some ⟨C, 0, none⟩) L L) := by simp [World.cell?, hr_.blk, ringObj]
  have r3 : w.cell? ⟨hr, 3, none⟩ = some (.pointer (some ⟨R2, 0, none⟩)) := by simp [World.cell?, hr_.blk, ringObj]
  have s0 : w.cell? ⟨R2, 0, none⟩ = some (.int .u64 base2) := by simp [World.cell?, hr2.blk, ringObj]
  have HLP := hide (loadp_at Q 67 hr _ _ _ _ w h.c67 hr_.blk)
  have HNL := hide (loadp_at hr 3 R2 _ _ _ _ w r3 hr2.blk)
  have e1 : (pos : Int) - (base : Int) = ((pos - base : Nat) : Int) := by omega
  have hlt : (pos - base) % L < L := Nat.mod_lt _ (by rw [hk]; exact Nat.pow_pos (by omega))
  have hand := and_mask (pos - base) k L hk hL (by omega)
  have hnlt : ¬ ((pos : Int) < (base : Int)) := by omega
  have hylt : (pos : Int) < (base2 : Int) := by omega
  clear h hr_ hr2 r3 hk
  obtain ⟨c, hc⟩ : ∃ c, c = (pos - base) % L := ⟨_, rfl⟩
  rw [← hc] at hand hlt ⊢
  clear hc
  go_enter Yba.func34, Yba.ntmps34
  go_wp2_with (go_at_call 32; refine Calls.mono HLP.out ?_; rintro e w' ⟨rfl, rfl⟩)
  refine wp_loop_rounds 1 ?_
  rw [rounds_succ]
  go_upto_region 9 with (go_at_call 32; refine Calls.mono HNL.out ?_; rintro e w' ⟨rfl, rfl⟩)
  go_region
  go_wp2
  go_ret3
  exact ⟨rfl, rfl⟩

/-- headCell where the head has come to the next ring: headRing is moved on. -/
theorem head_move (w : World) (Q size maxC head hr tail tr res lim C base L R2 C2 base2 L2 k2 : Nat) (sq sq2 : Nat → Nat) (tk tk2 : Nat → Int) (pos : Nat) (h : Qs w Q size maxC head hr tail tr res lim) (hr_ : Rs w hr C base L (some ⟨R2, 0, none⟩) sq tk) (hr2 : Rs w R2 C2 base2 L2 none sq2 tk2) (hne : Q ≠ R2) (hk : L2 = 2 ^ k2) (hL : L2 ≤ 4096) (hb : base ≤ pos) (hb2 : base2 ≤ pos) (hp : pos ≤ 4294967296) :
    Calls Yba.prog 34 #[.pointer (some ⟨Q, 0, none⟩), .int .u64 (pos : Int)] w fun e w' => e = .returned (.tuple #[.pointer (some ⟨R2, 0, none⟩), .pointer (some ⟨C2, (pos - base2) % L2 * 2, none⟩), .int .u64 ((pos - base2 : Nat) : Int)]) ∧ w' = (w.setCell ⟨Q, 67, none⟩ (.pointer (some ⟨R2, 0, none⟩))).drew := by
  have r0 : w.cell? ⟨hr, 0, none⟩ = some (.int .u64 base) := by simp [World.cell?, hr_.blk, ringObj]
  have r3 : w.cell? ⟨hr, 3, none⟩ = some (.pointer (some ⟨R2, 0, none⟩)) := by simp [World.cell?, hr_.blk, ringObj]
  have s0 : w.cell? ⟨R2, 0, none⟩ = some (.int .u64 base2) := by simp [World.cell?, hr2.blk, ringObj]
  have HLP := hide (loadp_at Q 67 hr _ _ _ _ w h.c67 hr_.blk)
  have HNL := hide (loadp_at hr 3 R2 _ _ _ _ w r3 hr2.blk)
  have HCP := hide (casp_at Q 67 hr R2 _ _ _ _ _ _ _ _ w h.c67 (h.fz _) hr_.blk hr2.blk)
  obtain ⟨W, hW⟩ : ∃ W, W = w.setCell ⟨Q, 67, none⟩ (.pointer (some ⟨R2, 0, none⟩)) := ⟨_, rfl⟩
  have hW2 : W.heap[R2]? = w.heap[R2]? := by rw [hW]; exact Below.heap_setCell _ _ _ _ (Ne.symm hne)
  have t0 : W.cell? ⟨R2, 0, none⟩ = some (.int .u64 base2) := (World.cell?_of_block (a := ⟨R2, 0, none⟩) hW2).trans s0
  have t1 : W.cell? ⟨R2, 1, none⟩ = some (.int .u64 ((L2 : Int) - 1)) := by simp [World.cell?, hW2, hr2.blk, ringObj]
  have t2 : W.cell? ⟨R2, 2, none⟩ = some (.slice (some ⟨C2, 0, none⟩) L2 L2) := by simp [World.cell?, hW2, hr2.blk, ringObj]
  have t3 : W.cell? ⟨R2, 3, none⟩ = some (.pointer none) := by simp [World.cell?, hW2, hr2.blk, ringObj]
  have HNN := hide (loadp_nil R2 3 W t3)
  have HCP2 : Hid (Calls Yba.prog 46 #[.pointer (some ⟨Q, 67, none⟩), .pointer (some ⟨hr, 0, none⟩), .pointer (some ⟨R2, 0, none⟩)] w fun e w' => e = .returned (.bool true) ∧ W = w') := hide (Calls.mono HCP.out (fun e w' ⟨h1, h2⟩ => ⟨h1, hW.trans h2.symm⟩))
  have e1 : (pos : Int) - (base2 : Int) = ((pos - base2 : Nat) : Int) := by omega
  have hlt : (pos - base2) % L2 < L2 := Nat.mod_lt _ (by rw [hk]; exact Nat.pow_pos (by omega))
  have hand := and_mask (pos - base2) k2 L2 hk hL (by omega)
  have hnlt : ¬ ((pos : Int) < (base : Int)) := by omega
  have hylt : ¬ (pos : Int) < (base2 : Int) := by omega
  rw [← hW]
  clear h hr_ hr2 r3 t3 hk hW hW2 HCP
  obtain ⟨c, hc⟩ : ∃ c, c = (pos - base2) % L2 := ⟨_, rfl⟩
  rw [← hc] at hand hlt ⊢
  clear hc
  go_enter Yba.func34, Yba.ntmps34
  go_wp2_with (go_at_call 32; refine Calls.mono HLP.out ?_; rintro e w' ⟨rfl, rfl⟩)
  refine wp_loop_rounds 2 ?_
  rw [rounds_succ]
  go_wp2_with (first
    | (go_at_call 32; refine Calls.mono HNL.out ?_; rintro e w' ⟨rfl, rfl⟩)
    | (go_at_call 46; refine Calls.mono HCP2.out ?_; rintro e w' ⟨rfl, rfl⟩))
  rw [rounds_succ]
  go_upto_region 9 with (go_at_call 32; refine Calls.mono HNN.out ?_; rintro e w' ⟨rfl, rfl⟩)
  go_region
  go_wp2
  go_ret3
  exact ⟨rfl, rfl⟩
end Go.Proofs.Ybulkeca
