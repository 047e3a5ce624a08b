import Derived.Test.YbulkecaTakeNil
set_option linter.unusedVariables false
namespace Go.Proofs.Ybulkeca
open Go.RowKit

/-! ### The plain numbers -/
def Sk (k : Nat → Nat) : Nat → Nat
  | 0 => 0
  | i + 1 => Sk k i + k i
def Tk (k : Nat → Nat) (s0 : Int) : Nat → Nat
  | 0 => 0
  | i + 1 => Tk k s0 i + (min (max (s0 - Tk k s0 i) 0) (k i)).toNat
def nk (k : Nat → Nat) (s0 : Int) (i : Nat) : Nat := (min (max (s0 - Tk k s0 i) 0) (k i)).toNat

theorem Tk_succ (k : Nat → Nat) (s0 : Int) (i : Nat) : Tk k s0 (i + 1) = Tk k s0 i + nk k s0 i := rfl
theorem nk_le (k : Nat → Nat) (s0 : Int) (i : Nat) : nk k s0 i ≤ k i := by unfold nk; omega
theorem nk_int (k : Nat → Nat) (s0 : Int) (i : Nat) : ((nk k s0 i : Nat) : Int) = min (max (s0 - Tk k s0 i) 0) (k i) := by unfold nk; omega
theorem Tk_le (k : Nat → Nat) (s0 : Int) : ∀ i, Tk k s0 i ≤ Sk k i
  | 0 => Nat.le_refl _
  | i + 1 => by
    have := Tk_le k s0 i
    have := nk_le k s0 i
    rw [Tk_succ]
    simp only [Sk]
    omega
theorem Sk_mono (k : Nat → Nat) {i j : Nat} (h : i ≤ j) : Sk k i ≤ Sk k j := by
  induction h with
  | refl => exact Nat.le_refl _
  | step _ ih => simp only [Sk]; omega
theorem Sk_small (k : Nat → Nat) (hk : ∀ i, k i ≤ 15) : ∀ i, Sk k i ≤ 15 * i
  | 0 => Nat.le_refl _
  | i + 1 => by have := Sk_small k hk i; have := hk i; simp only [Sk]; omega

/-! ### Where things lie -/
def Bs (k : Nat → Nat) (b0 : Nat) : Nat → Nat
  | 0 => b0
  | i + 1 => Bs k b0 i + 1 + 3 * k i + min 1 (k i)
theorem Bs_mono (k : Nat → Nat) (b0 : Nat) {i j : Nat} (h : i ≤ j) : Bs k b0 i ≤ Bs k b0 j := by
  induction h with
  | refl => exact Nat.le_refl _
  | step _ ih => simp only [Bs]; omega
theorem Bs_step (k : Nat → Nat) (b0 : Nat) {i j : Nat} (h : i < j) : Bs k b0 i + 1 + 3 * k i + min 1 (k i) ≤ Bs k b0 j := Bs_mono k b0 (i := i + 1) h
/-- Two numbers in the ranges of two rounds. -/
theorem Bs_ne (k : Nat → Nat) (b0 : Nat) {i j x y : Nat} (h : i ≠ j) (h1 : Bs k b0 i ≤ x) (h2 : x < Bs k b0 (i + 1)) (h3 : Bs k b0 j ≤ y) (h4 : y < Bs k b0 (j + 1)) : x ≠ y := by
  rcases Nat.lt_or_gt_of_ne h with h | h
  · have := Bs_mono k b0 (i := i + 1) h; omega
  · have := Bs_mono k b0 (i := j + 1) h; omega

/-- The channel of the worker j of shard i; the worker itself is the next block. -/
def ch (k : Nat → Nat) (b0 i j : Nat) : Nat := Bs k b0 i + 1 + 3 * j
/-- The row of the shard's idle workers. -/
def ib (k : Nat → Nat) (b0 i : Nat) : Nat := Bs k b0 i + 1 + 3 * k i
def wp (k : Nat → Nat) (b0 i j : Nat) : Value := .pointer (some ⟨ch k b0 i j + 1, 0, none⟩)
def ptrs (k : Nat → Nat) (b0 i : Nat) : List Value := (List.range (k i)).map (wp k b0 i)
def oi (k : Nat → Nat) (b0 i : Nat) : Option Addr := if k i = 0 then none else some ⟨ib k b0 i, 0, none⟩
def chunk (k : Nat → Nat) (b0 i n : Nat) : List Nat := (List.range n).map (ch k b0 i)
def taken (k : Nat → Nat) (b0 : Nat) (s0 : Int) : Nat → List Nat
  | 0 => []
  | i + 1 => taken k b0 s0 i ++ chunk k b0 i (nk k s0 i)
def toPtr (c : Nat) : Value := .pointer (some ⟨c + 1, 0, none⟩)

theorem ptrs_length (k : Nat → Nat) (b0 i : Nat) : (ptrs k b0 i).length = k i := by simp [ptrs]
theorem ptrs_one (k : Nat → Nat) (b0 i : Nat) : ∀ v ∈ ptrs k b0 i, v.oneCell' = true := by
  intro v hv
  simp only [ptrs, List.mem_map] at hv
  obtain ⟨j, _, rfl⟩ := hv
  rfl
theorem ptrs_take (k : Nat → Nat) (b0 i n : Nat) (h : n ≤ k i) : (ptrs k b0 i).take n = (chunk k b0 i n).map toPtr := by
  unfold ptrs chunk
  rw [← List.map_take, List.take_range, Nat.min_eq_left h, List.map_map]
  rfl
theorem taken_length (k : Nat → Nat) (b0 : Nat) (s0 : Int) : ∀ i, (taken k b0 s0 i).length = Tk k s0 i
  | 0 => rfl
  | i + 1 => by simp [taken, chunk, taken_length k b0 s0 i, Tk_succ]
theorem taken_mem (k : Nat → Nat) (b0 : Nat) (s0 : Int) (c : Nat) : ∀ i, c ∈ taken k b0 s0 i ↔ ∃ t j, t < i ∧ j < nk k s0 t ∧ c = ch k b0 t j
  | 0 => by simp [taken]
  | i + 1 => by
    simp only [taken, List.mem_append, taken_mem k b0 s0 c i, chunk, List.mem_map, List.mem_range]
    constructor
    · rintro (⟨t, j, h1, h2, h3⟩ | ⟨j, h2, h3⟩)
      · exact ⟨t, j, by omega, h2, h3⟩
      · exact ⟨i, j, by omega, h2, h3.symm⟩
    · rintro ⟨t, j, h1, h2, h3⟩
      by_cases e : t = i
      · subst e; exact .inr ⟨j, h2, h3.symm⟩
      · exact .inl ⟨t, j, by omega, h2, h3⟩
theorem ch_lt (k : Nat → Nat) (b0 : Nat) {i j : Nat} (h : j < k i) : ch k b0 i j + 2 ≤ ib k b0 i ∧ ib k b0 i < Bs k b0 (i + 1) ∧ Bs k b0 i < ch k b0 i j := by
  simp only [ch, ib, Bs]
  omega
theorem ch_inj (k : Nat → Nat) (b0 : Nat) {i j i' j' : Nat} (h : j < k i) (h' : j' < k i') (e : ch k b0 i j = ch k b0 i' j') : i = i' ∧ j = j' := by
  have h1 := ch_lt k b0 h
  have h2 := ch_lt k b0 h'
  by_cases hi : i = i'
  · subst hi
    refine ⟨rfl, ?_⟩
    simp only [ch] at e
    omega
  · exact absurd e (Bs_ne k b0 hi (by omega) (by omega) (by omega) (by omega))
theorem chunk_nodup (k : Nat → Nat) (b0 i : Nat) : ∀ n, (chunk k b0 i n).Nodup
  | 0 => List.nodup_nil
  | n + 1 => by
    have h : chunk k b0 i (n + 1) = chunk k b0 i n ++ [ch k b0 i n] := by
      unfold chunk
      rw [List.range_succ, List.map_append]
      rfl
    rw [h]
    refine List.nodup_append.2 ⟨chunk_nodup k b0 i n, by simp, ?_⟩
    intro a ha b hb e
    simp only [chunk, List.mem_map, List.mem_range] at ha
    simp only [List.mem_singleton] at hb
    obtain ⟨j, h1, h2⟩ := ha
    subst e
    rw [hb] at h2
    simp only [ch] at h2
    omega
theorem taken_nodup (k : Nat → Nat) (b0 : Nat) (s0 : Int) : ∀ i, (taken k b0 s0 i).Nodup
  | 0 => List.nodup_nil
  | i + 1 => by
    refine List.nodup_append.2 ⟨taken_nodup k b0 s0 i, chunk_nodup k b0 i _, ?_⟩
    intro a ha b hb e
    subst e
    obtain ⟨t, j, h2, h3, h4⟩ := (taken_mem k b0 s0 a i).1 ha
    simp only [chunk, List.mem_map, List.mem_range] at hb
    obtain ⟨j', h5, h6⟩ := hb
    have := ch_inj k b0 (Nat.lt_of_lt_of_le h3 (nk_le k s0 t)) (Nat.lt_of_lt_of_le h5 (nk_le k s0 i)) (h4.symm.trans h6.symm)
    omega
end Go.Proofs.Ybulkeca
