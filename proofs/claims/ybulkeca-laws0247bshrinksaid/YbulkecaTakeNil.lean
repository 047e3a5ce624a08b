import Derived.Test.YbulkecaTake
set_option linter.unusedVariables false
namespace Go.Proofs.Ybulkeca
open Go.RowKit

theorem step_copy_none {ops : Array Oper} {o : Oper} {a : Act} {w : World} {K : Act → World → Prop} {Q : Exit → Act → World → Prop} {E : Prop} (hgd : o.guard = none) (d s : Operand) (dT sT : TypeId)
    (ho : o.op = .call { callee := .builtin .copy, args := #[d, s], argTypes := #[dT, sT] }) (elem : TypeId) (hu : Yba.prog.underlying dT = some (.slice elem)) (hsz : (Yba.prog.info? elem).map (·.size) = some 1)
    (hd : a.eval d = .slice none 0 0) (hs : a.eval s = .slice none 0 0) (h : K (a.put o.dst (goInt 0)) w) :
    if Region.wanted o (yielded ops a.tmps) = true then Oper.wp Yba.prog o a w K Q else E := by
  have hw : Region.wanted o (yielded ops a.tmps) = true := by simp [Region.wanted, hgd]
  rw [if_pos hw]
  have hrun := run_copy_none (P := Yba.prog) w dT sT o.type elem none none 0 0 0 0 hu hsz (by rfl)
  unfold Oper.wp
  simp [execOp, ho, resolve, invoke, builtin, hd, hs, hrun, Result.andThen]
  exact h

theorem clear_nil (w : World) : (Builtin.clear_ #[69] 0 #[.slice none 0 0]).run Yba.prog w = .ok (.tuple #[]) w := by simp [Builtin.clear_, run_underlying Yba.underlying69]

theorem took_nil {H p sh o3 I m r d : Nat} {L xs : List Value} {bv : Value} {w w1 : World} 
    (hcnt : w.cell? ⟨p, 76, none⟩ = some (.int .i64 ((d : Int) * 4294967296 + r))) (hidl : w.cell? ⟨sh, o3, none⟩ = some (.slice none 0 0))
    (hown : w.ownsRow H 72 1 bv m xs) (d1 : p ≠ sh) (d4 : bv.ownBlock ≠ some p) (d5 : bv.ownBlock ≠ some sh)
    (hw1 : w1 = w.setCell ⟨p, 76, none⟩ (.int .i64 (((d - 0 : Nat) : Int) * 4294967296 + r))) :
    Took H w (w1.drew.setCell ⟨sh, o3, none⟩ (.slice none 0 0)) p sh o3 I 0 0 0 m r d none L xs bv bv := by
  have O1 : Only p w w1.drew := by rw [hw1]; exact (Only.setCell p 76 w _).trans ⟨fun _ _ => rfl, rfl, rfl, rfl, rfl⟩
  have O5 := Only.setCell sh o3 w1.drew (.slice none 0 0)
  have hs1 : w1.drew.cell? ⟨sh, o3, none⟩ = some (.slice none 0 0) := (O1.cell (Ne.symm d1)).trans hidl
  have hw1d : w1.drew.heap = (w.setCell ⟨p, 76, none⟩ (.int .i64 (((d - 0 : Nat) : Int) * 4294967296 + r))).heap := by rw [hw1]; rfl
  have hp : ∀ o, w1.drew.cell? ⟨p, o, none⟩ = (w.setCell ⟨p, 76, none⟩ (.int .i64 (((d - 0 : Nat) : Int) * 4294967296 + r))).cell? ⟨p, o, none⟩ := fun o => by simp [World.cell?, hw1d]
  have hpf : ∀ o, w1.drew.frozen? ⟨p, o, none⟩ = (w.setCell ⟨p, 76, none⟩ (.int .i64 (((d - 0 : Nat) : Int) * 4294967296 + r))).frozen? ⟨p, o, none⟩ := fun o => by simp [World.frozen?, hw1d]
  exact {
    cnt := by
      rw [O5.cell d1, hp]
      exact World.cell?_setCell_same w ⟨p, 76, none⟩ _ hcnt
    idl := World.cell?_setCell_same _ ⟨sh, o3, none⟩ _ hs1
    row := fun h => by omega
    own := by
      have := ownsRow_only (ownsRow_only hown O1 d4) O5 d5
      simpa using this
    lies := .inl rfl
    size := by rw [O5.size, O1.size]; exact Nat.le_refl _
    other := fun b h1 h2 h3 h4 h5 => (O5.other b h3).trans (O1.other b h2)
    pcell := fun o ho => by
      rw [O5.cell d1, hp]
      exact World.cell?_setCell_other _ _ _ _ (by intro h; injection h with h1 h2; exact ho h2.symm)
    scell := fun o ho => by
      refine (World.cell?_setCell_other _ _ _ _ (by intro h; injection h with h1 h2; exact ho h2.symm)).trans ?_
      exact O1.cell (Ne.symm d1)
    pfz := fun o => by
      rw [O5.frozen d1, hpf]
      exact World.frozen?_setCell _ _ _ _
    sfz := fun o => by
      rw [World.frozen?_setCell]
      exact O1.frozen (Ne.symm d1)
    os := O5.os.trans O1.os
    tape := O5.tape.trans O1.tape
    output := O5.output.trans O1.output }

set_option maxHeartbeats 1000000 in
set_option maxRecDepth 100000 in
theorem take_nil (H p sh so I m r d : Nat) (L xs : List Value) (bv : Value) (w : World) (hr : r < 4294967296) (hd : d ≤ 1048576) (hm : m ≤ 1000000)
    (hcnt : w.cell? ⟨p, 76, none⟩ = some (.int .i64 ((d : Int) * 4294967296 + r))) (hcz : w.frozen? ⟨p, 76, none⟩ = false)
    (hidl : w.cell? ⟨sh, so + 3, none⟩ = some (.slice none 0 0)) (hiz : w.frozen? ⟨sh, so + 3, none⟩ = false)
    (hown : w.ownsRow H 72 1 bv m xs) (d1 : p ≠ sh) (d4 : bv.ownBlock ≠ some p) (d5 : bv.ownBlock ≠ some sh) :
    Calls Yba.prog 21 #[.pointer (some ⟨p, 0, none⟩), .pointer (some ⟨sh, so, none⟩), .int .i64 0, bv] w fun e w' => ∃ bv', e = .returned bv' ∧ Took H w w' p sh (so + 3) I 0 0 0 m r d none L xs bv bv' := by
  have K1 := hide (exit_at p 76 0 r d hr hd (Nat.zero_le _) w hcnt hcz)
  obtain ⟨w1, hw1⟩ : ∃ w1, w1 = w.setCell ⟨p, 76, none⟩ (.int .i64 (((d - 0 : Nat) : Int) * 4294967296 + r)) := ⟨_, rfl⟩
  have O1 : Only p w w1 := by rw [hw1]; exact Only.setCell p 76 w _
  have a1 : w1.cell? ⟨sh, so + 3, none⟩ = some (.slice none 0 0) := (O1.cell (Ne.symm d1)).trans hidl
  have a2 : w1.frozen? ⟨sh, so + 3, none⟩ = false := (O1.frozen (Ne.symm d1)).trans hiz
  rw [← hw1] at K1
  have HW := hide hw1
  have HC := hide hcnt
  have HI := hide hidl
  have HO := hide hown
  have HT := hide (took_nil (I := I) (L := L) hcnt hidl hown d1 d4 d5 hw1)
  have hcl := clear_nil
  clear hcnt hcz hidl hiz O1 hw1
  have hv : bv = .slice none 0 0 ∧ m = 0 ∨ ∃ g cap, bv = .slice (some ⟨g, 0, none⟩) m cap ∧ m ≤ cap ∧ cap ≤ maxLen := by
    rcases hown.2 with h | ⟨g, cap, cur, h1, _, _, h2, h3, _⟩
    · exact .inl h
    · exact .inr ⟨g, cap, h1, h2, h3⟩
  clear hown
  rcases hv with ⟨rfl, rfl⟩ | ⟨g, cap, rfl, hmc, hcm⟩
  · go_enter Yba.func21, Yba.ntmps21
    go_upto_region 2 with (go_at_call 37; refine Calls.mono K1.out ?_; rintro e w1 ⟨rfl, rfl⟩)
    go_upto_region 3 with fail
    go_region_law (refine step_copy_none rfl (.tmp 26) (.tmp 32) 69 69 rfl 72 Yba.underlying69 size72 rfl rfl ?_)
    all_goals
      go_wp2
      go_ret
      exact ⟨_, rfl, HT.out⟩
  · unfold maxLen at hcm
    go_enter Yba.func21, Yba.ntmps21
    go_upto_region 2 with (go_at_call 37; refine Calls.mono K1.out ?_; rintro e w1 ⟨rfl, rfl⟩)
    go_upto_region 3 with fail
    go_region_law (refine step_copy_none rfl (.tmp 26) (.tmp 32) 69 69 rfl 72 Yba.underlying69 size72 rfl rfl ?_)
    all_goals
      go_wp2
      go_ret
      exact ⟨_, rfl, HT.out⟩
end Go.Proofs.Ybulkeca
