import Derived.Test.YbulkdzwSearch
namespace Go.Proofs.Ybulkdzw
open Go.RowKit

/-- The entries of a clock whose counts are cx 0, cx 1, ..: the hosts below k that have one, in order. -/
def ents (cx : Nat → Int) (k : Nat) : List (Nat × Int) := (List.range k).filterMap fun j => if cx j = 0 then none else some (j, cx j)
def entCells (E : List (Nat × Int)) : List Value := E.flatMap fun p => [.string (hn p.1), .int .u64 p.2]

theorem ents_mem (cx : Nat → Int) (k : Nat) (p : Nat × Int) : p ∈ ents cx k ↔ p.1 < k ∧ cx p.1 ≠ 0 ∧ p.2 = cx p.1 := by
  unfold ents
  simp only [List.mem_filterMap, List.mem_range]
  constructor
  · rintro ⟨j, hj, h⟩
    by_cases e : cx j = 0
    · simp [e] at h
    · simp only [e, if_false, Option.some.injEq] at h
      subst h
      exact ⟨hj, e, rfl⟩
  · rintro ⟨h1, h2, h3⟩
    refine ⟨p.1, h1, ?_⟩
    simp only [h2, if_false, Option.some.injEq]
    exact Prod.ext rfl h3.symm

theorem ents_len (cx : Nat → Int) (k : Nat) : (ents cx k).length ≤ k := by
  have := List.length_filterMap_le (fun j => if cx j = 0 then none else some (j, cx j)) (List.range k)
  simpa [ents] using this

theorem ents_sorted (cx : Nat → Int) (k : Nat) : (ents cx k).Pairwise (fun a b => a.1 < b.1) := by
  unfold ents
  rw [List.pairwise_filterMap]
  rw [List.pairwise_iff_getElem]
  intro i j hi hj hij
  have hab : (List.range k)[i] < (List.range k)[j] := by simpa using hij
  revert hab
  generalize (List.range k)[i] = a
  generalize (List.range k)[j] = b
  intro hab p hp q hq
  by_cases ea : cx a = 0
  · simp [ea] at hp
  · by_cases eb : cx b = 0
    · simp [eb] at hq
    · simp [ea] at hp; simp [eb] at hq
      subst hp; subst hq; exact hab

theorem ents_succ (cx : Nat → Int) (k : Nat) : ents cx (k + 1) = ents cx k ++ (if cx k = 0 then [] else [(k, cx k)]) := by
  unfold ents
  rw [List.range_succ, List.filterMap_append]
  by_cases e : cx k = 0 <;> simp [e]

theorem entCells_len (E : List (Nat × Int)) : (entCells E).length = E.length * 2 := by
  induction E with
  | nil => rfl
  | cons p E ih => simp [entCells] at ih ⊢; omega

theorem entCells_at (E : List (Nat × Int)) (j : Nat) (hj : j < E.length) : (entCells E)[j * 2]? = some (.string (hn E[j].1)) ∧ (entCells E)[j * 2 + 1]? = some (.int .u64 E[j].2) := by
  induction E generalizing j with
  | nil => simp at hj
  | cons p E ih =>
    cases j with
    | zero => simp [entCells]
    | succ j =>
      have := ih j (by simpa using hj)
      have e : entCells (p :: E) = .string (hn p.1) :: .int .u64 p.2 :: entCells E := rfl
      rw [e, show (j + 1) * 2 = j * 2 + 1 + 1 from by omega]
      simpa using this

/-- The value v is a clock of the call's own, with the entries of cx (hosts below k). -/
def Clk (w : World) (base : Nat) (cx : Nat → Int) (k : Nat) (v : Value) : Prop := w.ownsRow base 31 2 v (ents cx k).length (entCells (ents cx k))

theorem Clk.mono {w : World} {b b' k : Nat} {cx : Nat → Int} {v : Value} (h : Clk w b cx k v) (hb : b' ≤ b) : Clk w b' cx k v := by
  obtain ⟨h1, h2⟩ := h
  refine ⟨h1, ?_⟩
  rcases h2 with h2 | ⟨g, cap, cur, hv, hg, r⟩
  · exact .inl h2
  · exact .inr ⟨g, cap, cur, hv, by omega, r⟩

theorem Clk.kept {w w' : World} {b k : Nat} {cx : Nat → Int} {v : Value} (h : Clk w b cx k v) (hb : ∀ i, b ≤ i → i < w.heap.size → w'.heap[i]? = w.heap[i]?) : Clk w' b cx k v := by
  obtain ⟨h1, h2⟩ := h
  refine ⟨h1, ?_⟩
  rcases h2 with h2 | ⟨g, cap, cur, hv, hg, hh, r⟩
  · exact .inl h2
  · exact .inr ⟨g, cap, cur, hv, hg, (hb g hg (Array.getElem?_eq_some_iff.1 hh).1).trans hh, r⟩

set_option maxRecDepth 100000 in
theorem bsearch_nil (t : Nat) (w : World) :
    Calls Yba.prog 11 #[.slice none 0 0, .string (hn t), .func (.func 12) #[] #[]] w fun e w' => e = .returned (.tuple #[.int .i64 0, .bool false]) ∧ Below w.heap.size w w' := by
  go_enter Yba.func11, Yba.ntmps11
  go_wp2
  refine wp_loop_rounds 1 ?_
  rw [rounds_succ]
  go_wp2
  go_ret2
  exact ⟨rfl, Below.refl _ _⟩

set_option maxRecDepth 100000 in
theorem search_nil (t : Nat) (w : World) :
    Calls Yba.prog 10 #[.slice none 0 0, .string (hn t)] w fun e w' => e = .returned (.tuple #[.int .i64 0, .bool false]) ∧ Below w.heap.size w w' := by
  go_enter Yba.func10, Yba.ntmps10
  go_wp2_with (go_at_call 11; refine (bsearch_nil t _).mono ?_; rintro e w' ⟨rfl, hb⟩)
  go_ret2
  exact ⟨rfl, hb⟩

set_option maxRecDepth 100000 in
theorem get_nil (t : Nat) (w : World) :
    Calls Yba.prog 9 #[.slice none 0 0, .string (hn t)] w fun e w' => e = .returned (.int .u64 0) ∧ Below w.heap.size w w' := by
  go_enter Yba.func9, Yba.ntmps9
  go_wp2_with (go_at_call 10; refine (search_nil t _).mono ?_; rintro e w' ⟨rfl, hb⟩)
  go_ret
  exact ⟨rfl, hb⟩

set_option maxRecDepth 100000 in
theorem search_some (g n cap t : Nat) (κ : Nat → Nat) (x : Nat → Int) (w : World) (hn4 : n ≤ 4) (hg : g < w.heap.size) (ht : t < 5) (hκ : ∀ j, j < n → κ j < 5) (hmono : ∀ i j, i < j → j < n → κ i < κ j)
    (hc0 : ∀ j, j < n → w.cell? ⟨g, j * 2, none⟩ = some (.string (hn (κ j)))) (hc1 : ∀ j, j < n → w.cell? ⟨g, j * 2 + 1, none⟩ = some (.int .u64 (x j))) :
    Calls Yba.prog 10 #[.slice (some ⟨g, 0, none⟩) n cap, .string (hn t)] w fun e w' => ∃ i : Nat, e = .returned (.tuple #[.int .i64 i, .bool (decide (i < n ∧ κ i = t))]) ∧ (∀ j, j < n → κ j = t → j = i) ∧ Below w.heap.size w w' := by
  have H := bsearch g n cap t κ x w hn4 hg ht hκ hmono hc0 hc1
  have HC : Hid _ := H
  clear H hc0 hc1 hmono hκ
  go_enter Yba.func10, Yba.ntmps10
  go_wp2_with (go_at_call 11; refine Calls.mono HC.out ?_; rintro e w' ⟨i, rfl, hu, hb⟩)
  go_ret2
  exact ⟨i, ret_ib rfl (Bool.decide_and _ _).symm, hu, hb⟩

theorem ret_u {a b : Int} (h : a = b) : Ending.returned (.int .u64 a) = .returned (.int .u64 b) := by rw [h]

set_option maxRecDepth 100000 in
theorem get_some (g n cap t : Nat) (κ : Nat → Nat) (x : Nat → Int) (w : World) (r : Int) (hn4 : n ≤ 4) (hg : g < w.heap.size) (ht : t < 5) (hκ : ∀ j, j < n → κ j < 5) (hmono : ∀ i j, i < j → j < n → κ i < κ j)
    (hc0 : ∀ j, j < n → w.cell? ⟨g, j * 2, none⟩ = some (.string (hn (κ j)))) (hc1 : ∀ j, j < n → w.cell? ⟨g, j * 2 + 1, none⟩ = some (.int .u64 (x j)))
    (hr1 : ∀ j, j < n → κ j = t → x j = r) (hr2 : (∀ j, j < n → κ j ≠ t) → r = 0) :
    Calls Yba.prog 9 #[.slice (some ⟨g, 0, none⟩) n cap, .string (hn t)] w fun e w' => e = .returned (.int .u64 r) ∧ Below w.heap.size w w' := by
  have H := search_some g n cap t κ x w hn4 hg ht hκ hmono hc0 hc1
  have HC : Hid _ := H
  have HR1 : Hid _ := hr1
  have HR2 : Hid _ := hr2
  have HC1 : Hid _ := hc1
  clear H hc0 hmono hκ hr1 hr2 hc1
  go_enter Yba.func9, Yba.ntmps9
  go_wp2_with fail
  refine Calls.mono HC.out ?_
  rintro e w' ⟨i, rfl, hu, hb⟩
  have HU : Hid _ := hu
  clear hu
  by_cases hi : i < n ∧ κ i = t
  · rw [decide_eq_true hi]
    obtain ⟨hin, hk⟩ := hi
    have HK : Hid (κ i = t) := hk
    clear hk
    have d1 : w'.cell? ⟨g, i * 2 + 1, none⟩ = some (.int .u64 (x i)) := (hb.cell hg).trans (HC1.out i hin)
    go_wp2
    go_ret
    exact ⟨ret_u (HR1.out i hin HK.out), hb⟩
  · rw [decide_eq_false hi]
    have HI : Hid _ := hi
    clear hi
    go_wp2
    go_ret
    exact ⟨ret_u (HR2.out (fun j hj e => HI.out (by rw [← HU.out j hj e]; exact ⟨hj, e⟩))).symm, hb⟩

/-- 'c.Get(host)': the clock's count of that host. -/
theorem get_any {w : World} {base k t : Nat} {cx : Nat → Int} {v : Value} (h : Clk w base cx k v) (hk : k ≤ 4) (ht : t < 5) :
    Calls Yba.prog 9 #[v, .string (hn t)] w fun e w' => e = .returned (.int .u64 (if t < k then cx t else 0)) ∧ Below w.heap.size w w' := by
  obtain ⟨h1, h2⟩ := h
  rcases h2 with ⟨rfl, hz⟩ | ⟨g, cap, cur, rfl, hg, hh, _, _, _, htk⟩
  · have hnil : ents cx k = [] := List.eq_nil_of_length_eq_zero hz
    have : (if t < k then cx t else 0) = 0 := by
      by_cases htk : t < k
      · rw [if_pos htk]
        by_cases e : cx t = 0
        · exact e
        · have := (ents_mem cx k (t, cx t)).2 ⟨htk, e, rfl⟩
          rw [hnil] at this
          cases this
      · rw [if_neg htk]
    rw [this]
    exact get_nil t w
  · have hcell : ∀ i, i < (ents cx k).length * 2 → w.cell? ⟨g, i, none⟩ = (entCells (ents cx k))[i]? := by
      intro i hi
      rw [← htk, List.getElem?_take, if_pos hi]
      simp [World.cell?, hh]
    have hat : ∀ j, j < (ents cx k).length → (ents cx k).getD j (0, 0) ∈ ents cx k ∧ w.cell? ⟨g, j * 2, none⟩ = some (.string (hn ((ents cx k).getD j (0, 0)).1)) ∧ w.cell? ⟨g, j * 2 + 1, none⟩ = some (.int .u64 ((ents cx k).getD j (0, 0)).2) := by
      intro j hj
      have e := entCells_at (ents cx k) j hj
      have eg : (ents cx k).getD j (0, 0) = (ents cx k)[j] := by simp [List.getD, List.getElem?_eq_getElem hj]
      rw [hcell _ (by omega), hcell _ (by omega), eg]
      exact ⟨List.getElem_mem hj, e.1, e.2⟩
    have hlen := ents_len cx k
    refine get_some g (ents cx k).length cap t (fun j => ((ents cx k).getD j (0, 0)).1) (fun j => ((ents cx k).getD j (0, 0)).2) w _ (by omega) (Array.getElem?_eq_some_iff.1 hh).1 ht ?_ ?_ ?_ ?_ ?_ ?_
    · intro j hj
      have := ((ents_mem cx k _).1 (hat j hj).1).1
      omega
    · intro i j hij hj
      have := (List.pairwise_iff_getElem.1 (ents_sorted cx k)) i j (by omega) hj hij
      simpa [List.getD, List.getElem?_eq_getElem hj, List.getElem?_eq_getElem (show i < (ents cx k).length from by omega)] using this
    · exact fun j hj => (hat j hj).2.1
    · exact fun j hj => (hat j hj).2.2
    · intro j hj e
      have m := (ents_mem cx k _).1 (hat j hj).1
      rw [m.2.2, e, if_pos (by rw [← e]; exact m.1)]
    · intro hno
      by_cases htk : t < k
      · rw [if_pos htk]
        by_cases e : cx t = 0
        · exact e
        · have hm := (ents_mem cx k (t, cx t)).2 ⟨htk, e, rfl⟩
          obtain ⟨j, hj, hje⟩ := List.getElem_of_mem hm
          have := hno j hj
          simp [List.getD, List.getElem?_eq_getElem hj, hje] at this
      · rw [if_neg htk]
end Go.Proofs.Ybulkdzw
