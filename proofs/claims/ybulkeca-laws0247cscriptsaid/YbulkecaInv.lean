import Derived.Test.YbulkecaPush
set_option linter.unusedVariables false
namespace Go.Proofs.Ybulkeca

theorem mod_inj {L p q : Nat} (h : p % L = q % L) (h1 : p < q + L) (h2 : q < p + L) : p = q := by
  have a := Nat.div_add_mod p L
  have b := Nat.div_add_mod q L
  rcases Nat.lt_trichotomy (p / L) (q / L) with hl | he | hg
  · have : L * (p / L + 1) ≤ L * (q / L) := Nat.mul_le_mul_left L hl
    rw [Nat.mul_add] at this
    omega
  · rw [he] at a; omega
  · have : L * (q / L + 1) ≤ L * (p / L) := Nat.mul_le_mul_left L hg
    rw [Nat.mul_add] at this
    omega

/-- What the last ring holds. -/
structure Tl (sq : Nat → Nat) (tk : Nat → Int) (b L h : Nat) (fl : List Int) : Prop where
  full : ∀ p, b ≤ p → h ≤ p → p < fl.length → sq ((p - b) % L) = p - b + 1 ∧ tk ((p - b) % L) = fl.getD p 0
  free : ∀ p, b ≤ p → fl.length ≤ p → p < fl.length + L → (p < b + L ∨ p < h + L) → sq ((p - b) % L) = p - b
  fits : fl.length ≤ h + L

/-- What a ring before the last one holds, up to the next ring's base e. -/
structure Hd (sq : Nat → Nat) (tk : Nat → Int) (b L h e : Nat) (fl : List Int) : Prop where
  full : ∀ p, b ≤ p → h ≤ p → p < e → sq ((p - b) % L) = p - b + 1 ∧ tk ((p - b) % L) = fl.getD p 0
  fits : e ≤ h + L

section
variable {sq : Nat → Nat} {tk : Nat → Int} {b L h : Nat} {fl : List Int}
theorem Tl.pop (H : Tl sq tk b L h fl) (hb : b ≤ h) (ht : h < fl.length) : Tl (fun j => if j = (h - b) % L then h - b + L else sq j) (fun j => if j = (h - b) % L then 0 else tk j) b L (h + 1) fl := by
  have hf := H.fits
  refine ⟨fun p h1 h2 h3 => ?_, fun p h0 h1 h2 h3 => ?_, by omega⟩
  · have hne : ¬ (p - b) % L = (h - b) % L := fun e => by have := mod_inj e (by omega) (by omega); omega
    simp only [if_neg hne]
    exact H.full p h1 (by omega) h3
  · by_cases e : (p - b) % L = (h - b) % L
    · simp only [if_pos e]
      have e2 : (p - b) % L = (h - b + L) % L := by rw [e, Nat.add_mod_right]
      have := mod_inj e2 (by omega) (by omega)
      omega
    · simp only [if_neg e]
      refine H.free p h0 h1 h2 ?_
      rcases h3 with h3 | h3
      · exact .inl h3
      · rcases Nat.lt_or_ge p (h + L) with h4 | h4
        · exact .inr h4
        · have : p = h + L := by omega
          exfalso
          apply e
          rw [this, show h + L - b = h - b + L by omega, Nat.add_mod_right]

theorem Tl.pop_before (H : Tl sq tk b L h fl) (hb : h < b) : Tl sq tk b L (h + 1) fl := by
  refine ⟨fun p h1 h2 h3 => H.full p h1 (by omega) h3, fun p h0 h1 h2 h3 => H.free p h0 h1 h2 ?_, by have := H.fits; omega⟩
  rcases h3 with h3 | h3
  · exact .inl h3
  · exact .inl (by omega)

theorem getD_append (fl : List Int) (x : Int) (p : Nat) (hp : p < fl.length) : (fl ++ [x]).getD p 0 = fl.getD p 0 := by
  simp [List.getD, List.getElem?_append_left hp]
theorem getD_last (fl : List Int) (x : Int) : (fl ++ [x]).getD fl.length 0 = x := by
  simp [List.getD]

theorem Tl.push (H : Tl sq tk b L h fl) (hb : b ≤ fl.length) (hh : h ≤ fl.length) (ht : fl.length < h + L) (x : Int) :
    Tl (fun j => if j = (fl.length - b) % L then fl.length - b + 1 else sq j) (fun j => if j = (fl.length - b) % L then x else tk j) b L h (fl ++ [x]) := by
  refine ⟨fun p h1 h2 h3 => ?_, fun p h0 h1 h2 h3 => ?_, by simp; omega⟩
  · simp only [List.length_append, List.length_cons, List.length_nil] at h3
    by_cases e : p = fl.length
    · subst e; simp only [if_true]; exact ⟨trivial, (getD_last fl x).symm⟩
    · have hne : ¬ (p - b) % L = (fl.length - b) % L := fun e => by have := mod_inj e (by omega) (by omega); omega
      simp only [if_neg hne]
      rw [getD_append fl x p (by omega)]
      exact H.full p h1 h2 (by omega)
  · simp only [List.length_append, List.length_cons, List.length_nil] at h1 h2
    have hlt : p < fl.length + L := by rcases h3 with h3 | h3 <;> omega
    have hne : ¬ (p - b) % L = (fl.length - b) % L := fun e => by have := mod_inj e (by omega) (by omega); omega
    simp only [if_neg hne]
    exact H.free p h0 (by omega) hlt h3

theorem Tl.to_hd (H : Tl sq tk b L h fl) (x : Int) : Hd sq tk b L h fl.length (fl ++ [x]) :=
  ⟨fun p h1 h2 h3 => by rw [getD_append fl x p h3]; exact H.full p h1 h2 h3, H.fits⟩

theorem Tl.start (L : Nat) (fl : List Int) (x : Int) (h : Nat) (hh : h ≤ fl.length) (hf : fl.length < h + L) : Tl (fun j => if j = 0 then 1 else j) (fun j => if j = 0 then x else 0) fl.length L h (fl ++ [x]) := by
  refine ⟨fun p h1 h2 h3 => ?_, fun p h0 h1 h2 h3 => ?_, by simp; omega⟩
  · simp only [List.length_append, List.length_cons, List.length_nil] at h3
    obtain rfl : p = fl.length := by omega
    simp
  · simp only [List.length_append, List.length_cons, List.length_nil] at h1 h2
    have hlt : p < fl.length + L := by rcases h3 with h3 | h3 <;> omega
    rw [Nat.mod_eq_of_lt (by omega)]
    simp [show ¬ p - fl.length = 0 by omega]

theorem Tl.empty (L : Nat) : Tl (fun j => j) (fun _ => 0) 0 L 0 [] := by
  refine ⟨fun p _ _ h => by simp at h, fun p _ _ h _ => ?_, by simp⟩
  simp at h
  simp [Nat.mod_eq_of_lt h]

theorem Hd.pop {e : Nat} (H : Hd sq tk b L h e fl) (hb : b ≤ h) (ht : h < e) : Hd (fun j => if j = (h - b) % L then h - b + L else sq j) (fun j => if j = (h - b) % L then 0 else tk j) b L (h + 1) e fl := by
  have hf := H.fits
  refine ⟨fun p h1 h2 h3 => ?_, by omega⟩
  have hne : ¬ (p - b) % L = (h - b) % L := fun e => by have := mod_inj e (by omega) (by omega); omega
  simp only [if_neg hne]
  exact H.full p h1 (by omega) h3
theorem Hd.past {e : Nat} (H : Hd sq tk b L h e fl) (h' : Nat) (hh : h ≤ h') : Hd sq tk b L h' e fl :=
  ⟨fun p h1 h2 h3 => H.full p h1 (by omega) h3, by have := H.fits; omega⟩
theorem Hd.push {e : Nat} (H : Hd sq tk b L h e fl) (he : e ≤ fl.length) (x : Int) : Hd sq tk b L h e (fl ++ [x]) :=
  ⟨fun p h1 h2 h3 => by rw [getD_append fl x p (by omega)]; exact H.full p h1 h2 h3, H.fits⟩
end

/-- The queue with one ring. -/
def One (w : World) (Q size h : Nat) (fl : List Int) (res : Nat) (S : List Nat) : Prop :=
  ∃ R C L k maxC lim sq tk, Qs w Q size maxC h R fl.length R res lim ∧ Rs w R C 0 L none sq tk ∧ Tl sq tk 0 L h fl ∧ lim ≤ h + size ∧ L = 2 ^ k ∧ 2 ≤ L ∧ L ≤ 64 ∧ size ≤ maxC ∧ (L = maxC ∨ (L = 64 ∧ maxC = 128)) ∧ S = [Q, R, C] ∧ Q ≠ R ∧ Q ≠ C

/-- The queue with two. -/
def Two (w : World) (Q size h : Nat) (fl : List Int) (res : Nat) (S : List Nat) : Prop :=
  ∃ R1 C1 R2 C2 e hr lim sq1 tk1 sq2 tk2, Qs w Q size 128 h hr fl.length R2 res lim ∧ Rs w R1 C1 0 64 (some ⟨R2, 0, none⟩) sq1 tk1 ∧ Rs w R2 C2 e 128 none sq2 tk2 ∧ Hd sq1 tk1 0 64 h e fl ∧ Tl sq2 tk2 e 128 h fl ∧ lim ≤ h + size ∧ size ≤ 128 ∧ e < fl.length ∧
    (hr = R1 ∨ (hr = R2 ∧ e ≤ h)) ∧ S = [Q, R1, C1, R2, C2] ∧ Q ≠ R1 ∧ Q ≠ C1 ∧ Q ≠ R2 ∧ Q ≠ C2 ∧ R1 ≠ C2 ∧ R2 ≠ C1 ∧ C1 ≠ C2

def Inv (w : World) (Q size h : Nat) (fl : List Int) (res : Nat) (S : List Nat) : Prop := h ≤ fl.length ∧ fl.length ≤ 4294967296 ∧ size ≤ 99 ∧ (One w Q size h fl res S ∨ Two w Q size h fl res S)

theorem Inv.of_blocks {w w' : World} {Q size h : Nat} {fl : List Int} {res : Nat} {S : List Nat} (H : Inv w Q size h fl res S) (hb : ∀ i, i ∈ S → w'.heap[i]? = w.heap[i]?) : Inv w' Q size h fl res S := by
  obtain ⟨h1, h2, h3, H⟩ := H
  refine ⟨h1, h2, h3, ?_⟩
  rcases H with ⟨R, C, L, k, maxC, lim, sq, tk, a1, a2, a3, a4, a5, a6, a7, a8, a9, rfl, a10⟩ | ⟨R1, C1, R2, C2, e, hr, lim, sq1, tk1, sq2, tk2, a1, a2, a3, a4, a5, a6, a7, a8, a9, rfl, a10⟩
  · exact .inl ⟨R, C, L, k, maxC, lim, sq, tk, a1.of_block (hb _ (by simp)), a2.of_blocks (hb _ (by simp)) (hb _ (by simp)), a3, a4, a5, a6, a7, a8, a9, rfl, a10⟩
  · exact .inr ⟨R1, C1, R2, C2, e, hr, lim, sq1, tk1, sq2, tk2, a1.of_block (hb _ (by simp)), a2.of_blocks (hb _ (by simp)) (hb _ (by simp)), a3.of_blocks (hb _ (by simp)) (hb _ (by simp)), a4, a5, a6, a7, a8, a9, rfl, a10⟩

theorem Inv.qs {w : World} {Q size h : Nat} {fl : List Int} {res : Nat} {S : List Nat} (H : Inv w Q size h fl res S) : ∃ maxC hr tr lim, Qs w Q size maxC h hr fl.length tr res lim ∧ lim ≤ h + size ∧ Q ∈ S := by
  obtain ⟨h1, h2, h3, H⟩ := H
  rcases H with ⟨R, C, L, k, maxC, lim, sq, tk, a1, a2, a3, a4, a5, a6, a7, a8, a9, rfl, a10⟩ | ⟨R1, C1, R2, C2, e, hr, lim, sq1, tk1, sq2, tk2, a1, a2, a3, a4, a5, a6, a7, a8, a9, rfl, a10⟩
  · exact ⟨_, _, _, _, a1, a4, by simp⟩
  · exact ⟨_, _, _, _, a1, a6, by simp⟩

theorem Inv.lt {w : World} {Q size h : Nat} {fl : List Int} {res : Nat} {S : List Nat} (H : Inv w Q size h fl res S) : ∀ i, i ∈ S → i < w.heap.size := by
  obtain ⟨h1, h2, h3, H⟩ := H
  rcases H with ⟨R, C, L, k, maxC, lim, sq, tk, a1, a2, a3, a4, a5, a6, a7, a8, a9, rfl, a10⟩ | ⟨R1, C1, R2, C2, e, hr, lim, sq1, tk1, sq2, tk2, a1, a2, a3, a4, a5, a6, a7, a8, a9, rfl, a10⟩
  · intro i hi
    simp at hi
    rcases hi with rfl | rfl | rfl
    · exact a1.lt
    · exact a2.lt
    · exact a2.ltc (by omega)
  · intro i hi
    simp at hi
    rcases hi with rfl | rfl | rfl | rfl | rfl
    · exact a1.lt
    · exact a2.lt
    · exact a2.ltc (by omega)
    · exact a3.lt
    · exact a3.ltc (by omega)

/-- The counter of reservations and the limit may turn, the rest standing. -/
theorem Inv.counts {w w' : World} {Q size h : Nat} {fl : List Int} {res res' : Nat} {S : List Nat} (H : Inv w Q size h fl res S) (hT : Touch [Q] w w')
    (hq : ∀ maxC hr tr lim, lim ≤ h + size → Qs w Q size maxC h hr fl.length tr res lim → ∃ lim', lim' ≤ h + size ∧ Qs w' Q size maxC h hr fl.length tr res' lim') : Inv w' Q size h fl res' S := by
  obtain ⟨h1, h2, h3, H⟩ := H
  refine ⟨h1, h2, h3, ?_⟩
  rcases H with ⟨R, C, L, k, maxC, lim, sq, tk, a1, a2, a3, a4, a5, a6, a7, a8, a9, rfl, a10, a11⟩ | ⟨R1, C1, R2, C2, e, hr, lim, sq1, tk1, sq2, tk2, a1, a2, a3, a4, a5, a6, a7, a8, a9, rfl, b1, b2, b3, b4, b5, b6, b7⟩
  · obtain ⟨lim', l1, l2⟩ := hq _ _ _ _ a4 a1
    exact .inl ⟨R, C, L, k, maxC, lim', sq, tk, l2, a2.of_blocks (hT.block _ a2.lt (by simp; omega)) (hT.block _ (a2.ltc (by omega)) (by simp; omega)), a3, l1, a5, a6, a7, a8, a9, rfl, a10, a11⟩
  · obtain ⟨lim', l1, l2⟩ := hq _ _ _ _ a6 a1
    exact .inr ⟨R1, C1, R2, C2, e, hr, lim', sq1, tk1, sq2, tk2, l2, a2.of_blocks (hT.block _ a2.lt (by simp; omega)) (hT.block _ (a2.ltc (by omega)) (by simp; omega)), a3.of_blocks (hT.block _ a3.lt (by simp; omega)) (hT.block _ (a3.ltc (by omega)) (by simp; omega)), a4, a5, l1, a7, a8, a9, rfl, b1, b2, b3, b4, b5, b6, b7⟩
end Go.Proofs.Ybulkeca
