import Derived.Test.YbulkecaInv
import Derived.Test.YbulkecaNew
set_option linter.unusedVariables false
namespace Go.Proofs.Ybulkeca
open Go.RowKit

theorem len_inv {w : World} {Q size h : Nat} {fl : List Int} {res : Nat} {S : List Nat} (H : Inv w Q size h fl res S) (hle : h ≤ res) (hb : res ≤ 4294967296) :
    Calls Yba.prog 12 #[.pointer (some ⟨Q, 0, none⟩)] w fun e w' => e = .returned (.int .i64 ((res : Int) - (h : Int))) ∧ w = w' := by
  obtain ⟨maxC, hr, tr, lim, hq, _⟩ := H.qs
  exact len_at w Q size maxC h hr fl.length tr res lim hq hle hb

/-- Two readings of the queue's fields are one. -/
theorem Qs.same {w : World} {Q size maxC head hr tail tr res lim maxC' hr' tr' lim' : Nat} (h : Qs w Q size maxC head hr tail tr res lim) (h' : Qs w Q size maxC' head hr' tail tr' res lim') : maxC = maxC' ∧ hr = hr' ∧ tr = tr' ∧ lim = lim' := by
  have a := h.c1.symm.trans h'.c1
  have b := h.c67.symm.trans h'.c67
  have c := h.c133.symm.trans h'.c133
  have d := h.c135.symm.trans h'.c135
  simp only [Option.some.injEq, Value.int.injEq, Value.pointer.injEq, Addr.mk.injEq, true_and, and_true] at a b c d
  omega

theorem reserve_inv {w : World} {Q size h : Nat} {fl : List Int} {S : List Nat} (H : Inv w Q size h fl fl.length S) :
    Calls Yba.prog 13 #[.pointer (some ⟨Q, 0, none⟩)] w fun e w' => Touch S w w' ∧ ((fl.length < h + size ∧ e = .returned (.bool true) ∧ Inv w' Q size h fl (fl.length + 1) S) ∨ (h + size ≤ fl.length ∧ e = .returned (.bool false) ∧ Inv w' Q size h fl fl.length S)) := by
  obtain ⟨maxC, hr, tr, lim, hq, hl, hS⟩ := H.qs
  have h2 := H.2.1
  have h1 := H.1
  have h3 := H.2.2.1
  by_cases hy : fl.length < h + size
  · refine (reserve_yes w Q size maxC h hr fl.length tr fl.length lim hq h2 (by omega) (by omega) hl hy).mono fun e w' ⟨he, ⟨lim', hl', hq'⟩, hT⟩ => ⟨hT.mono (by simp; exact hS), .inl ⟨hy, he, ?_⟩⟩
    refine H.counts hT fun maxC2 hr2 tr2 lim2 _ hq2 => ⟨lim', hl', ?_⟩
    obtain ⟨rfl, rfl, rfl, _⟩ := hq.same hq2
    exact hq'
  · refine (reserve_no w Q size maxC h hr fl.length tr fl.length lim hq h2 (by omega) (by omega) hl (by omega)).mono fun e w' ⟨he, hq', hT⟩ => ⟨hT.mono (by simp; exact hS), .inr ⟨by omega, he, ?_⟩⟩
    refine H.counts hT fun maxC2 hr2 tr2 lim2 _ hq2 => ⟨lim, hl, ?_⟩
    obtain ⟨rfl, rfl, rfl, _⟩ := hq.same hq2
    exact hq'

theorem force_inv {w : World} {Q size h : Nat} {fl : List Int} {S : List Nat} (H : Inv w Q size h fl fl.length S) :
    Calls Yba.prog 17 #[.pointer (some ⟨Q, 0, none⟩)] w fun e w' => e = .returned (.tuple #[]) ∧ Touch S w w' ∧ Inv w' Q size h fl (fl.length + 1) S := by
  obtain ⟨maxC, hr, tr, lim, hq, hl, hS⟩ := H.qs
  refine (force_at w Q size maxC h hr fl.length tr fl.length lim hq H.2.1).mono fun e w' ⟨he, hq', hT⟩ => ⟨he, hT.mono (by simp; exact hS), ?_⟩
  refine H.counts hT fun maxC2 hr2 tr2 lim2 _ hq2 => ⟨lim, hl, ?_⟩
  obtain ⟨rfl, rfl, rfl, _⟩ := hq.same hq2
  exact hq'

theorem unres_inv {w : World} {Q size h : Nat} {fl : List Int} {S : List Nat} (H : Inv w Q size h fl (fl.length + 1) S) :
    Calls Yba.prog 16 #[.pointer (some ⟨Q, 0, none⟩)] w fun e w' => e = .returned (.bool ((fl.length : Int) - (h : Int) == 0)) ∧ Touch S w w' ∧ Inv w' Q size h fl fl.length S := by
  obtain ⟨maxC, hr, tr, lim, hq, hl, hS⟩ := H.qs
  refine (unres_at w Q size maxC h hr fl.length tr fl.length lim hq H.1 H.2.1).mono fun e w' ⟨he, hq', hT⟩ => ⟨he, hT.mono (by simp; exact hS), ?_⟩
  refine H.counts hT fun maxC2 hr2 tr2 lim2 _ hq2 => ⟨lim, hl, ?_⟩
  obtain ⟨rfl, rfl, rfl, _⟩ := hq.same hq2
  exact hq'

theorem new_inv (size : Nat) (hs : size ≤ 99) (w : World) :
    Calls Yba.prog 11 #[.int .i64 (size : Int)] w fun e w' => ∃ Q S, e = .returned (.pointer (some ⟨Q, 0, none⟩)) ∧ Inv w' Q size 0 [] 0 S ∧ (∀ i, i ∈ S → w.heap.size ≤ i) ∧ Touch [] w w' := by
  refine (newQueue_at size hs w).mono fun e w' ⟨Q, R, C, k, L, he, hQ, hR, hC, hne1, hne2, hk1, hk7, hsz, hL, hq, hr, hT⟩ => ?_
  have h2k : 2 ≤ 2 ^ k := Nat.pow_le_pow_right (n := 2) (i := 1) (by omega) hk1
  have h27 : 2 ^ k ≤ 128 := Nat.pow_le_pow_right (n := 2) (j := 7) (by omega) hk7
  refine ⟨Q, [Q, R, C], he, ⟨by simp, by simp, hs, .inl ?_⟩, by intro i hi; simp at hi; rcases hi with rfl | rfl | rfl <;> assumption, hT⟩
  by_cases h6 : k ≤ 6
  · have h64 : 2 ^ k ≤ 64 := Nat.pow_le_pow_right (n := 2) (j := 6) (by omega) h6
    have hL2 : L = 2 ^ k := by omega
    exact ⟨R, C, L, k, 2 ^ k, size, _, _, hq, hr, Tl.empty L, by omega, hL2, by omega, by omega, hsz, .inl hL2, rfl, hne1, hne2⟩
  · obtain rfl : k = 7 := by omega
    have hL2 : L = 64 := by omega
    exact ⟨R, C, L, 6, 2 ^ 7, size, _, _, hq, hr, Tl.empty L, by omega, by omega, by omega, by omega, hsz, .inr ⟨hL2, rfl⟩, rfl, hne1, hne2⟩

theorem pop_inv_no {w : World} {Q size h : Nat} {fl : List Int} {S : List Nat} (H : Inv w Q size h fl fl.length S) (he : h = fl.length) :
    Calls Yba.prog 15 #[.pointer (some ⟨Q, 0, none⟩)] w fun e w' => e = .returned (.tuple #[.int .i64 0, .int .u64 0, .bool false]) ∧ Touch S w w' ∧ Inv w' Q size h fl fl.length S := by
  obtain ⟨h1, h2, h3, H⟩ := H
  rcases H with ⟨R, C, L, k, maxC, lim, sq, tk, a1, a2, a3, a4, a5, a6, a7, a8, a9, rfl, a10, a11⟩ | ⟨R1, C1, R2, C2, e, hr, lim, sq1, tk1, sq2, tk2, a1, a2, a3, a4, a5, a6, a7, a8, a9, rfl, b1, b2, b3, b4, b5, b6, b7⟩
  · have hs : w.drew.cell? ⟨C, (h - 0) % L * 2, none⟩ = some (.int .u64 ((h - 0 : Nat) : Int)) := by
      have := a2.cs.seq ((h - 0) % L) (Nat.mod_lt _ (by omega))
      rw [a3.free h (by omega) (by omega) (by omega) (by omega)] at this
      exact this
    refine (pop_no w w.drew Q h R C ((h - 0) % L) (h - 0) (h - 0) a1.c66 ((head_last w Q size maxC h R fl.length R fl.length lim C 0 L k sq tk h a1 a2 a5 (by omega) (by omega) (by omega)).mono fun e w' hh => ⟨hh.1, hh.2.symm⟩) hs (by omega) (by omega)).mono ?_
    rintro e w' ⟨rfl, rfl⟩
    exact ⟨rfl, (Touch.refl _ _).drew, h1, h2, h3, .inl ⟨R, C, L, k, maxC, lim, sq, tk, a1.drew, ⟨a2.blk, ⟨a2.cs.seq, a2.cs.tsk, a2.cs.fz⟩, a2.ne⟩, a3, a4, a5, a6, a7, a8, a9, rfl, a10, a11⟩⟩
  · have hsq := a5.free h (by omega) (by omega) (by omega) (by omega)
    have hc : (h - e) % 128 < 128 := Nat.mod_lt _ (by omega)
    rcases a9 with rfl | ⟨rfl, hehr⟩
    · -- the head's ring is moved on
      have hb : ∀ i, i ≠ Q → (w.setCell ⟨Q, 67, none⟩ (.pointer (some ⟨R2, 0, none⟩))).drew.heap[i]? = w.heap[i]? := fun i hi => Below.heap_setCell w _ _ _ hi
      have a3' : Rs (w.setCell ⟨Q, 67, none⟩ (.pointer (some ⟨R2, 0, none⟩))).drew R2 C2 e 128 none sq2 tk2 := a3.of_blocks (hb _ (Ne.symm b3)) (hb _ (Ne.symm b4))
      have hs := a3'.cs.seq _ hc
      rw [hsq] at hs
      refine (pop_no w _ Q h R2 C2 ((h - e) % 128) (h - e) (h - e) a1.c66 ((head_move w Q size 128 h hr fl.length R2 fl.length lim C1 0 64 R2 C2 e 128 7 sq1 sq2 tk1 tk2 h a1 a2 a3 b3 rfl (by omega) (by omega) (by omega) (by omega)).mono fun e w' hh => ⟨hh.1, hh.2.symm⟩) hs (by omega) (by omega)).mono ?_
      rintro e' w' ⟨rfl, rfl⟩
      exact ⟨rfl, ((Touch.refl _ _).setCell (by simp) _).drew, h1, h2, h3, .inr ⟨hr, C1, R2, C2, e, R2, lim, sq1, tk1, sq2, tk2, (a1.setHr R2).drew, a2.of_blocks (hb _ (Ne.symm b1)) (hb _ (Ne.symm b2)), a3', a4, a5, a6, a7, a8, .inr ⟨rfl, by omega⟩, rfl, b1, b2, b3, b4, b5, b6, b7⟩⟩
    · have hs := a3.cs.seq _ hc
      rw [hsq] at hs
      refine (pop_no w w.drew Q h hr C2 ((h - e) % 128) (h - e) (h - e) a1.c66 ((head_last w Q size 128 h hr fl.length hr fl.length lim C2 e 128 7 sq2 tk2 h a1 a3 rfl (by omega) (by omega) (by omega)).mono fun e w' hh => ⟨hh.1, hh.2.symm⟩) hs (by omega) (by omega)).mono ?_
      rintro e' w' ⟨rfl, rfl⟩
      exact ⟨rfl, (Touch.refl _ _).drew, h1, h2, h3, .inr ⟨R1, C1, hr, C2, e, hr, lim, sq1, tk1, sq2, tk2, a1.drew, ⟨a2.blk, ⟨a2.cs.seq, a2.cs.tsk, a2.cs.fz⟩, a2.ne⟩, ⟨a3.blk, ⟨a3.cs.seq, a3.cs.tsk, a3.cs.fz⟩, a3.ne⟩, a4, a5, a6, a7, a8, .inr ⟨rfl, hehr⟩, rfl, b1, b2, b3, b4, b5, b6, b7⟩⟩
end Go.Proofs.Ybulkeca
