import Derived.Test.YbulkecaPops
set_option linter.unusedVariables false
namespace Go.Proofs.Ybulkeca
open Go.RowKit

/-- What a push that adds a ring does (YbulkecaPushGrow proves it). -/
def GrowSaid : Prop := ∀ (w : World) (Q size maxC head hr tail tr res lim C base L k c y : Nat) (sq : Nat → Nat) (tk : Nat → Int) (x : Int) (h : Qs w Q size maxC head hr tail tr res lim) (hr_ : Rs w tr C base L none sq tk) (hQC : Q ≠ C) (hQR : Q ≠ tr) (hk : L = 2 ^ k) (hL0 : 1 ≤ L) (hL : L ≤ 2048) (hb : base ≤ tail) (ht : tail ≤ 4294967296)
    (hc : c = (tail - base) % L) (hsq : sq c = y) (hy : y < tail - base) (hLm : L < maxC) (hm : maxC ≤ 4294967296) (hh : head + L ≤ tail),
    Calls Yba.prog 14 #[.pointer (some ⟨Q, 0, none⟩), .int .i64 x] w fun e w' => e = .returned (.tuple #[]) ∧ ∃ R2 C2, w.heap.size ≤ R2 ∧ w.heap.size ≤ C2 ∧
      Qs w' Q size maxC head hr (tail + 1) R2 res lim ∧ Rs w' tr C base L (some ⟨R2, 0, none⟩) sq tk ∧ Rs w' R2 C2 tail (2 * L) none (fun j => if j = 0 then 1 else j) (fun j => if j = 0 then x else 0) ∧ Touch [Q, tr] w w'

theorem push_inv (PG : GrowSaid) {w : World} {Q size h : Nat} {fl : List Int} {S : List Nat} (x : Int) (H : Inv w Q size h fl (fl.length + 1) S) (hlt : fl.length < h + size) (hbd : fl.length < 4294967296) :
    Calls Yba.prog 14 #[.pointer (some ⟨Q, 0, none⟩), .int .i64 x] w fun e w' => e = .returned (.tuple #[]) ∧ Touch S w w' ∧ ∃ S', Inv w' Q size h (fl ++ [x]) (fl.length + 1) S' ∧ ∀ i, i ∈ S' → i ∈ S ∨ w.heap.size ≤ i := by
  have hlen : (fl ++ [x]).length = fl.length + 1 := by simp
  have hS := H.lt
  obtain ⟨h1, h2, h3, H⟩ := H
  rcases H with ⟨R, C, L, k, maxC, lim, sq, tk, a1, a2, a3, a4, a5, a6, a7, a8, a9, rfl, a10, a11⟩ | ⟨R1, C1, R2, C2, e, hr, lim, sq1, tk1, sq2, tk2, a1, a2, a3, a4, a5, a6, a7, a8, a9, rfl, b1, b2, b3, b4, b5, b6, b7⟩
  · by_cases hfit : fl.length < h + L
    · have hsq := a3.free fl.length (by omega) (Nat.le_refl _) (by omega) (.inr hfit)
      refine (push_fit w Q size maxC h R fl.length R (fl.length + 1) lim C 0 L k _ none sq tk x a1 a2 a11 a10 a5 (by omega) (by omega) h2 rfl hsq).mono ?_
      rintro e w' ⟨rfl, hq, hr, hT⟩
      refine ⟨rfl, hT.mono (by intro i hi; simp at hi ⊢; omega), [Q, R, C], ⟨by omega, by omega, h3, .inl ⟨R, C, L, k, maxC, lim, _, _, by rw [hlen]; exact hq, hr, a3.push (by omega) h1 hfit x, a4, a5, a6, a7, a8, a9, rfl, a10, a11⟩⟩, fun i hi => .inl hi⟩
    · have hf := a3.fits
      have heq : fl.length = h + L := by omega
      have hL : L = 64 ∧ maxC = 128 := by
        rcases a9 with rfl | h9
        · omega
        · exact h9
      obtain ⟨rfl, rfl⟩ := hL
      obtain ⟨f1, _⟩ := a3.full h (by omega) (Nat.le_refl _) (by omega)
      have hcc : (h - 0) % 64 = (fl.length - 0) % 64 := by rw [heq]; omega
      rw [hcc] at f1
      refine (PG w Q size 128 h R fl.length R (fl.length + 1) lim C 0 64 6 _ _ sq tk x a1 a2 a11 a10 rfl (by omega) (by omega) (by omega) h2 rfl f1 (by omega) (by omega) (by omega) (by omega)).mono ?_
      rintro e w' ⟨rfl, R2, C2, hR2, hC2, hq, hr1, hr2, hT⟩
      have q0 := hS Q (by simp)
      have q1 := hS R (by simp)
      have q2 := hS C (by simp)
      refine ⟨rfl, hT.mono (by intro i hi; simp at hi ⊢; omega), [Q, R, C, R2, C2], ⟨by omega, by omega, h3, .inr ⟨R, C, R2, C2, fl.length, R, lim, sq, tk, _, _, by rw [hlen]; exact hq, hr1, hr2, a3.to_hd x, Tl.start 128 fl x h h1 (by omega), a4, by omega, by omega, .inl rfl, rfl, a10, a11, by omega, by omega, by omega, by omega, by omega⟩⟩, ?_⟩
      intro i hi
      simp at hi ⊢
      omega
  · have hsq := a5.free fl.length (by omega) (Nat.le_refl _) (by omega) (.inr (by omega))
    refine (push_fit w Q size 128 h hr fl.length R2 (fl.length + 1) lim C2 e 128 7 _ none sq2 tk2 x a1 a3 b4 b3 rfl (by omega) (by omega) h2 rfl hsq).mono ?_
    rintro e' w' ⟨rfl, hq, hr', hT⟩
    refine ⟨rfl, hT.mono (by intro i hi; simp at hi ⊢; omega), [Q, R1, C1, R2, C2], ⟨by omega, by omega, h3, .inr ⟨R1, C1, R2, C2, e, hr, lim, sq1, tk1, _, _, by rw [hlen]; exact hq, a2.of_blocks (hT.block _ a2.lt (by simp; omega)) (hT.block _ (a2.ltc (by omega)) (by simp; omega)), hr', a4.push (by omega) x, a5.push (by omega) h1 (by omega) x, a6, a7, by omega, a9, rfl, b1, b2, b3, b4, b5, b6, b7⟩⟩, fun i hi => .inl hi⟩
end Go.Proofs.Ybulkeca
