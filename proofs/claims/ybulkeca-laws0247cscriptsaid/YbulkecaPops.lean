import Derived.Test.YbulkecaOps
set_option linter.unusedVariables false
namespace Go.Proofs.Ybulkeca
open Go.RowKit

theorem Rs.drew {w : World} {R C base L : Nat} {nx : Option Addr} {sq : Nat → Nat} {tk : Nat → Int} (h : Rs w R C base L nx sq tk) : Rs w.drew R C base L nx sq tk := ⟨h.blk, ⟨h.cs.seq, h.cs.tsk, h.cs.fz⟩, h.ne⟩

theorem pop_inv_yes {w : World} {Q size h : Nat} {fl : List Int} {S : List Nat} (H : Inv w Q size h fl fl.length S) (hlt : h < fl.length) :
    Calls Yba.prog 15 #[.pointer (some ⟨Q, 0, none⟩)] w fun e w' => e = .returned (.tuple #[.int .i64 (fl.getD h 0), .int .u64 (h : Int), .bool true]) ∧ Touch S w w' ∧ Inv w' Q size (h + 1) fl fl.length S := by
  obtain ⟨h1, h2, h3, H⟩ := H
  rcases H with ⟨R, C, L, k, maxC, lim, sq, tk, a1, a2, a3, a4, a5, a6, a7, a8, a9, rfl, a10, a11⟩ | ⟨R1, C1, R2, C2, e, hr, lim, sq1, tk1, sq2, tk2, a1, a2, a3, a4, a5, a6, a7, a8, a9, rfl, b1, b2, b3, b4, b5, b6, b7⟩
  · obtain ⟨f1, f2⟩ := a3.full h (by omega) (by omega) hlt
    refine (pop_yes w w.drew Q size maxC h R fl.length R fl.length lim R C 0 L ((h - 0) % L) (h - 0) none sq tk a1.c66 a1.drew a2.drew a11 a10 ((head_last w Q size maxC h R fl.length R fl.length lim C 0 L k sq tk h a1 a2 a5 (by omega) (by omega) (by omega)).mono fun e w' hh => ⟨hh.1, hh.2.symm⟩) (Nat.mod_lt _ (by omega)) (by omega) f1 (by omega) (by omega)).mono ?_
    rintro e w' ⟨rfl, hq, hr, hT⟩
    rw [f2]
    refine ⟨rfl, ?_, by omega, h2, h3, .inl ⟨R, C, L, k, maxC, lim, _, _, hq, hr, a3.pop (by omega) hlt, by omega, a5, a6, a7, a8, a9, rfl, a10, a11⟩⟩
    exact ((Touch.refl _ _).drew).trans (hT.mono (by intro i hi; simp at hi ⊢; omega))
  · by_cases hhe : h < e
    · -- the head lies in the first ring
      have hhr : hr = R1 := by
        rcases a9 with rfl | ⟨_, h9⟩
        · rfl
        · omega
      subst hhr
      obtain ⟨f1, f2⟩ := a4.full h (by omega) (by omega) hhe
      refine (pop_yes w w.drew Q size 128 h hr fl.length R2 fl.length lim hr C1 0 64 ((h - 0) % 64) (h - 0) (some ⟨R2, 0, none⟩) sq1 tk1 a1.c66 a1.drew a2.drew b2 b1 ((head_stay w Q size 128 h hr fl.length R2 fl.length lim C1 0 64 6 R2 C2 e 128 none sq1 sq2 tk1 tk2 h a1 a2 a3 rfl (by omega) (by omega) hhe (by omega)).mono fun e w' hh => ⟨hh.1, hh.2.symm⟩) (Nat.mod_lt _ (by omega)) (by omega) f1 (by omega) (by omega)).mono ?_
      rintro e' w' ⟨rfl, hq, hr', hT⟩
      rw [f2]
      refine ⟨rfl, ?_, by omega, h2, h3, .inr ⟨hr, C1, R2, C2, e, hr, lim, _, _, sq2, tk2, hq, hr', a3.drew.of_blocks (hT.block _ a3.lt (by simp; omega)) (hT.block _ (a3.ltc (by omega)) (by simp; omega)), a4.pop (by omega) hhe, a5.pop_before hhe, by omega, a7, a8, .inl rfl, rfl, b1, b2, b3, b4, b5, b6, b7⟩⟩
      exact ((Touch.refl _ _).drew).trans (hT.mono (by intro i hi; simp at hi ⊢; omega))
    · obtain ⟨f1, f2⟩ := a5.full h (by omega) (by omega) hlt
      have hc : (h - e) % 128 < 128 := Nat.mod_lt _ (by omega)
      rcases a9 with rfl | ⟨rfl, hehr⟩
      · have hb : ∀ i, i ≠ Q → (w.setCell ⟨Q, 67, none⟩ (.pointer (some ⟨R2, 0, none⟩))).drew.heap[i]? = w.heap[i]? := fun i hi => Below.heap_setCell w _ _ _ hi
        have a3' : Rs (w.setCell ⟨Q, 67, none⟩ (.pointer (some ⟨R2, 0, none⟩))).drew R2 C2 e 128 none sq2 tk2 := a3.of_blocks (hb _ (Ne.symm b3)) (hb _ (Ne.symm b4))
        have a2' : Rs (w.setCell ⟨Q, 67, none⟩ (.pointer (some ⟨R2, 0, none⟩))).drew hr C1 0 64 (some ⟨R2, 0, none⟩) sq1 tk1 := a2.of_blocks (hb _ (Ne.symm b1)) (hb _ (Ne.symm b2))
        refine (pop_yes w _ Q size 128 h R2 fl.length R2 fl.length lim R2 C2 e 128 ((h - e) % 128) (h - e) none sq2 tk2 a1.c66 (a1.setHr R2).drew a3' b4 b3 ((head_move w Q size 128 h hr fl.length R2 fl.length lim C1 0 64 R2 C2 e 128 7 sq1 sq2 tk1 tk2 h a1 a2 a3 b3 rfl (by omega) (by omega) (by omega) (by omega)).mono fun e w' hh => ⟨hh.1, hh.2.symm⟩) hc (by omega) f1 (by omega) (by omega)).mono ?_
        rintro e' w' ⟨rfl, hq, hr', hT⟩
        rw [f2]
        refine ⟨rfl, ?_, by omega, h2, h3, .inr ⟨hr, C1, R2, C2, e, R2, lim, sq1, tk1, _, _, hq, a2'.of_blocks (hT.block _ a2'.lt (by simp; omega)) (hT.block _ (a2'.ltc (by omega)) (by simp; omega)), hr', a4.past (h + 1) (by omega), a5.pop (by omega) hlt, by omega, a7, a8, .inr ⟨rfl, by omega⟩, rfl, b1, b2, b3, b4, b5, b6, b7⟩⟩
        exact (((Touch.refl _ _).setCell (by simp) _).drew).trans (hT.mono (by intro i hi; simp at hi ⊢; omega))
      · refine (pop_yes w w.drew Q size 128 h hr fl.length hr fl.length lim hr C2 e 128 ((h - e) % 128) (h - e) none sq2 tk2 a1.c66 a1.drew a3.drew b4 b3 ((head_last w Q size 128 h hr fl.length hr fl.length lim C2 e 128 7 sq2 tk2 h a1 a3 rfl (by omega) (by omega) (by omega)).mono fun e w' hh => ⟨hh.1, hh.2.symm⟩) hc (by omega) f1 (by omega) (by omega)).mono ?_
        rintro e' w' ⟨rfl, hq, hr', hT⟩
        rw [f2]
        refine ⟨rfl, ?_, by omega, h2, h3, .inr ⟨R1, C1, hr, C2, e, hr, lim, sq1, tk1, _, _, hq, a2.drew.of_blocks (hT.block _ a2.lt (by simp; omega)) (hT.block _ (a2.ltc (by omega)) (by simp; omega)), hr', a4.past (h + 1) (by omega), a5.pop (by omega) hlt, by omega, a7, a8, .inr ⟨rfl, by omega⟩, rfl, b1, b2, b3, b4, b5, b6, b7⟩⟩
        exact ((Touch.refl _ _).drew).trans (hT.mono (by intro i hi; simp at hi ⊢; omega))
end Go.Proofs.Ybulkeca
