import Derived.Test.YbulkecaClosed
set_option linter.unusedVariables false
namespace Go.Proofs.Ybulkeca
open Go.RowKit

def openCh : Obj := .chan 0 #[] false 0 0 false
def shutCh : Obj := .chan 0 #[] true 0 0 false

/-- 'close' of an open channel. -/
theorem close_open {W : World} {sc : Nat} (ats : Array TypeId) (ty : TypeId) (h : W.heap[sc]? = some openCh) :
    ∃ W', (Builtin.close_ ats ty #[.chan (some sc)]).run Yba.prog W = .ok (.tuple #[]) W' ∧ W'.heap[sc]? = some shutCh ∧ (∀ i, i ≠ sc → W'.heap[i]? = W.heap[i]?) ∧ W'.heap.size = W.heap.size ∧ W'.os = W.os ∧ W'.tape = W.tape ∧ W'.output = W.output := by
  refine ⟨{ W with heap := W.heap.setIfInBounds sc shutCh }, run_close_open ats ty h, ?_, fun i hi => ?_, by simp, rfl, rfl, rfl⟩
  · have := (Array.getElem?_eq_some_iff.1 h).1
    simp [this]
  · simp [Array.getElem?_setIfInBounds_ne (Ne.symm hi)]

structure Aw (w wr : World) (g M k : Nat) (wb cb : Nat → Nat) : Prop where
  row : ∀ i, k ≤ i → i < M → wr.cell? ⟨g, i, none⟩ = some (.pointer (some ⟨wb i, 0, none⟩))
  fz : 0 < M → ∀ j, wr.frozen? ⟨g, j, none⟩ = false
  shut : ∀ i, i < k → wr.heap[cb i]? = some shutCh
  opn : ∀ i, k ≤ i → i < M → wr.heap[cb i]? = some openCh
  same : ∀ b, (0 < M → b ≠ g) → (∀ i, i < M → b ≠ cb i) → wr.heap[b]? = w.heap[b]?
  size : wr.heap.size = w.heap.size
  os : wr.os = w.os
  tape : wr.tape = w.tape
  output : wr.output = w.output

set_option maxHeartbeats 1000000 in
theorem away_at (w : World) (oa : Option Addr) (g M cap : Nat) (wb cb : Nat → Nat) (hM : M ≤ cap) (hM2 : cap ≤ maxLen) (hoa : 0 < M → oa = some ⟨g, 0, none⟩) (h0 : Aw w w g M 0 wb cb)
    (htask : ∀ i, i < M → w.cell? ⟨wb i, 1, none⟩ = some (.chan (some (cb i)))) (hinj : ∀ i j, i < M → j < M → cb i = cb j → i = j) (hwg : ∀ i, i < M → wb i ≠ g) :
    Calls Yba.prog 23 #[.slice oa M cap] w fun e w' => (∃ v, e = .returned v) ∧ Aw w w' g M M wb cb := by
  unfold maxLen at hM2
  have H0 := hide h0
  have HT := hide htask
  have HI := hide hinj
  have HG := hide hwg
  have HO := hide hoa
  clear h0 htask hinj hwg hoa
  go_enter Yba.func23, Yba.ntmps23
  go_wp2
  go_loopw [7] (fun i wr => ∃ k : Nat, k ≤ M ∧ i = .int .i64 k ∧ Aw w wr g M k wb cb) (fun i _ => M - (intOf i).toNat)
  case atStart => exact ⟨0, Nat.zero_le _, rfl, H0.out⟩
  case round =>
    have HOP := hide H0.out.opn
    have HRW := hide H0.out.row
    clear H0
    obtain ⟨k, hk, rfl, hA⟩ := hrel
    by_cases hlt : k < M
    · have hoa := HO.out (by omega)
      subst hoa
      have r0 := hA.row k (Nat.le_refl _) hlt
      have hnc : ∀ j, j < M → wb k ≠ cb j := by
        intro j hj e
        have q := HT.out k hlt
        have h := HOP.out j (Nat.zero_le _) hj
        rw [e] at q
        simp [World.cell?, h, openCh] at q
      have hgc : ∀ j, j < M → g ≠ cb j := by
        intro j hj e
        have q := HRW.out k (Nat.zero_le _) hlt
        have h := HOP.out j (Nat.zero_le _) hj
        rw [e] at q
        simp [World.cell?, h, openCh] at q
      have t0 : wr.cell? ⟨wb k, 1, none⟩ = some (.chan (some (cb k))) := (World.cell?_of_block (a := ⟨wb k, 1, none⟩) (hA.same _ (fun _ => HG.out k hlt) hnc)).trans (HT.out k hlt)
      obtain ⟨W, hcl, hsc, hot, hsz, q1, q2, q3⟩ := close_open (W := wr) #[73] 0 (hA.opn k (Nat.le_refl _) hlt)
      have r1 : W.cell? ⟨g, k, none⟩ = some (.pointer (some ⟨wb k, 0, none⟩)) := (World.cell?_of_block (a := ⟨g, k, none⟩) (hot g (hgc k hlt))).trans r0
      have f1 : W.frozen? ⟨g, k, none⟩ = false := (World.frozen?_of_block (a := ⟨g, k, none⟩) (hot g (hgc k hlt))).trans (hA.fz (by omega) k)
      have HA2 := hide (show Aw w (W.setCell ⟨g, k, none⟩ (.pointer none)) g M (k + 1) wb cb from {
        row := fun i h1 h2 => cell_setCell ((World.cell?_of_block (a := ⟨g, i, none⟩) (hot g (hgc k hlt))).trans (hA.row i (by omega) h2)) (by omega)
        fz := fun h1 j => by rw [World.frozen?_setCell]; exact (World.frozen?_of_block (a := ⟨g, j, none⟩) (hot g (hgc k hlt))).trans (hA.fz h1 j)
        shut := fun i h1 => by
          rw [Below.heap_setCell _ _ _ _ (Ne.symm (hgc i (by omega)))]
          by_cases e : i = k
          · rw [e]; exact hsc
          · rw [hot _ (fun e2 => e (HI.out i k (by omega) hlt e2))]; exact hA.shut i (by omega)
        opn := fun i h1 h2 => by
          rw [Below.heap_setCell _ _ _ _ (Ne.symm (hgc i h2)), hot _ (fun e2 => by have := HI.out i k h2 hlt e2; omega)]
          exact hA.opn i (by omega) h2
        same := fun b h1 h2 => by
          rw [Below.heap_setCell _ _ _ _ (h1 (by omega)), hot _ (h2 k hlt)]
          exact hA.same b h1 h2
        size := by rw [← hA.size, ← hsz]; simp [World.setCell]
        os := q1.trans hA.os
        tape := q2.trans hA.tape
        output := q3.trans hA.output })
      clear hA hnc hgc hsc hot hsz q1 q2 q3
      go_wp2
      go_roundw
      case rel => exact ⟨k + 1, by omega, by go_num, HA2.out⟩
      case measure => simp [intOf]; omega
    · obtain rfl : k = M := by omega
      have HA := hide hA
      clear hA
      go_wp2
      go_ret
      exact ⟨⟨_, rfl⟩, HA.out⟩
end Go.Proofs.Ybulkeca
