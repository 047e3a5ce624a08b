import Derived.Test.YbulkecaSur
set_option linter.unusedVariables false
namespace Go.Proofs.Ybulkeca
open Go.RowKit

theorem take_at (H p sh so I k n c m r d : Nat) (oa : Option Addr) (ps xs : List Value) (bv : Value) (w : World) (hr : r < 4294967296) (hd : d ≤ 1048576) (hnd : n ≤ d) (hnk : n ≤ k) (hm : m ≤ 1000000) (hk2 : k ≤ 1000)
    (hcnt : w.cell? ⟨p, 76, none⟩ = some (.int .i64 ((d : Int) * 4294967296 + r))) (hcz : w.frozen? ⟨p, 76, none⟩ = false)
    (hidl : w.cell? ⟨sh, so + 3, none⟩ = some (.slice oa k c)) (hiz : w.frozen? ⟨sh, so + 3, none⟩ = false) (hpl : ps.length = k) (h1 : ∀ v ∈ ps, v.oneCell' = true)
    (hoa : (k = 0 ∧ oa = none ∧ c = 0) ∨ (0 < k ∧ oa = some ⟨I, 0, none⟩ ∧ k ≤ c ∧ c ≤ maxLen ∧ ∃ L : List Value, w.heap[I]? = some (.cells L.toArray 72 (0, 0)) ∧ L.length = c ∧ L.take k = ps))
    (hown : w.ownsRow H 72 1 bv m xs) (hH : H ≤ w.heap.size)
    (d1 : p ≠ sh) (d2 : p ≠ I) (d3 : sh ≠ I) (d4 : bv.ownBlock ≠ some p) (d5 : bv.ownBlock ≠ some sh) (d6 : bv.ownBlock ≠ some I) :
    Calls Yba.prog 21 #[.pointer (some ⟨p, 0, none⟩), .pointer (some ⟨sh, so, none⟩), .int .i64 (n : Int), bv] w fun e w' => ∃ bv', e = .returned bv' ∧ Took H w w' p sh (so + 3) I k n c m r d oa ps xs bv bv' := by
  rcases hoa with ⟨rfl, rfl, rfl⟩ | ⟨hk, rfl, hkc, hc, L, hL1, hL2, hL3⟩
  · obtain rfl : n = 0 := by omega
    exact take_nil H p sh so I m r d ps xs bv w hr hd hm hcnt hcz hidl hiz hown d1 d4 d5
  · refine Calls.mono (take_pos H p sh so I k n c m r d L xs bv w hr hd hnd hnk hk hkc hc hm hk2 hcnt hcz hidl hiz hL1 hL2 (by rw [hL3]; exact h1) hown hH d1 d2 d3 d4 d5 d6) ?_
    rintro e w' ⟨bv', he, hT⟩
    have e1 : L.take n = ps.take n := by rw [← hL3, List.take_take, Nat.min_eq_left hnk]
    have e2 : L.take k = ps.take k := by rw [← hL3, List.take_take, Nat.min_self]
    refine ⟨bv', he, ?_⟩
    obtain ⟨a1, a2, a3, a4, a5, a6, a7, a8, a9, a10, a11, a12, a13, a14⟩ := hT
    exact ⟨a1, a2, by rw [← e2]; exact a3, by rw [← e1]; exact a4, a5, a6, a7, a8, a9, a10, a11, a12, a13, a14⟩

/-- How many are taken of shard i once t shards are done. -/
def mt (k : Nat → Nat) (s0 : Int) (t i : Nat) : Nat := if i < t then nk k s0 i else 0

/-- What stays. -/
structure Fx (k : Nat → Nat) (b0 N p sh r : Nat) (c : Nat → Nat) (w : World) : Prop where
  k15 : ∀ i, k i ≤ 15
  cz : ∀ i, k i = 0 → c i = 0
  ck : ∀ i, k i ≤ c i
  cm : ∀ i, c i ≤ maxLen
  n1 : N ≤ 1024
  r1 : r < 256
  ps : p ≠ sh
  pb : p < b0
  sb : sh < b0
  top : Bs k b0 N ≤ w.heap.size

structure Shr (k : Nat → Nat) (b0 N p sh r : Nat) (c : Nat → Nat) (s0 : Int) (w wr : World) (t : Nat) (bv : Value) : Prop where
  cnt : wr.cell? ⟨p, 76, none⟩ = some (.int .i64 (((Sk k N - Tk k s0 t : Nat) : Int) * 4294967296 + r))
  cntz : wr.frozen? ⟨p, 76, none⟩ = false
  pcell : ∀ o, o ≠ 76 → wr.cell? ⟨p, o, none⟩ = w.cell? ⟨p, o, none⟩
  mu : ∀ i, i < N → wr.cell? ⟨sh, i * 68 + 1, none⟩ = some (.int .i32 0)
  sfz : ∀ o, wr.frozen? ⟨sh, o, none⟩ = false
  idl : ∀ i, i < N → wr.cell? ⟨sh, i * 68 + 3, none⟩ = some (.slice (oi k b0 i) (k i - mt k s0 t i) (c i))
  row : ∀ i, i < N → 0 < k i → ∃ L : List Value, wr.heap[ib k b0 i]? = some (.cells L.toArray 72 (0, 0)) ∧ L.length = c i ∧ L.take (k i - mt k s0 t i) = (ptrs k b0 i).drop (mt k s0 t i)
  own : wr.ownsRow w.heap.size 72 1 bv (Tk k s0 t) ((taken k b0 s0 t).map toPtr)
  size : w.heap.size ≤ wr.heap.size
  other : ∀ b, b < w.heap.size → b ≠ p → b ≠ sh → (∀ i, i < N → 0 < k i → b ≠ ib k b0 i) → wr.heap[b]? = w.heap[b]?
  os : wr.os = w.os
  tape : wr.tape = w.tape
  output : wr.output = w.output

section
variable {k : Nat → Nat} {b0 N p sh r : Nat} {c : Nat → Nat} {s0 : Int} {w wr : World} {t : Nat} {bv : Value}

theorem ib_in (k : Nat → Nat) (b0 : Nat) {i : Nat} (h : 0 < k i) : Bs k b0 i < ib k b0 i ∧ ib k b0 i < Bs k b0 (i + 1) := by
  simp only [ib, Bs]; omega

theorem Fx.ibr (F : Fx k b0 N p sh r c w) {i : Nat} (hi : i < N) (h : 0 < k i) : b0 ≤ ib k b0 i ∧ ib k b0 i < w.heap.size := by
  have h1 := ib_in k b0 h
  have h2 := Bs_mono k b0 (Nat.zero_le i)
  have h3 := Bs_mono k b0 (i := i + 1) (j := N) hi
  have h4 := F.top
  simp only [Bs] at h2
  simp only [Bs] at h1 h3
  omega

theorem own_far {w wr : World} {bv : Value} {m : Nat} {xs : List Value} (h : wr.ownsRow w.heap.size 72 1 bv m xs) {b : Nat} (hb : b < w.heap.size) : bv.ownBlock ≠ some b := by
  intro e
  have := h.lt b e
  omega

theorem ib_zero {i : Nat} (h : k i = 0) : oi k b0 i = none := if_pos h

/-- The lock and the take. -/
theorem shr_take (F : Fx k b0 N p sh r c w) (S : Shr k b0 N p sh r c s0 w wr t bv) (ht : t < N) (hb0 : b0 ≤ w.heap.size) :
    Calls Yba.prog 21 #[.pointer (some ⟨p, 0, none⟩), .pointer (some ⟨sh, t * 68, none⟩), .int .i64 (nk k s0 t : Int), bv] (wr.setCell ⟨sh, t * 68 + 1, none⟩ (.int .i32 1)) fun e w' => ∃ bv', e = .returned bv' ∧
      Took w.heap.size (wr.setCell ⟨sh, t * 68 + 1, none⟩ (.int .i32 1)) w' p sh (t * 68 + 3) (ib k b0 t) (k t) (nk k s0 t) (c t) (Tk k s0 t) r (Sk k N - Tk k s0 t) (oi k b0 t) (ptrs k b0 t) ((taken k b0 s0 t).map toPtr) bv bv' := by
  have O := Only.setCell sh (t * 68 + 1) wr (.int .i32 1)
  have q1 := Sk_mono k (show t + 1 ≤ N from ht)
  have q2 := Tk_le k s0 (t + 1)
  have q3 := Sk_small k F.k15 N
  have q4 := F.n1
  have q5 := F.k15 t
  have q6 := F.r1
  have q7 := F.pb
  have q8 := F.sb
  have hS : Sk k (t + 1) = Sk k t + k t := rfl
  rw [Tk_succ] at q2
  have mz : mt k s0 t t = 0 := if_neg (Nat.lt_irrefl _)
  have hib : p ≠ ib k b0 t ∧ sh ≠ ib k b0 t := by
    have : b0 ≤ ib k b0 t := by have := Bs_mono k b0 (Nat.zero_le t); simp only [Bs] at this; simp only [ib]; omega
    omega
  have hI : bv.ownBlock ≠ some (ib k b0 t) ∨ k t = 0 := by
    by_cases hk : k t = 0
    · exact .inr hk
    · exact .inl (own_far S.own (F.ibr ht (by omega)).2)
  have hid := S.idl t ht
  rw [mz] at hid
  have hidw : (wr.setCell ⟨sh, t * 68 + 1, none⟩ (.int .i32 1)).cell? ⟨sh, t * 68 + 3, none⟩ = some (.slice (oi k b0 t) (k t) (c t)) := cell_setCell hid (by omega)
  by_cases hk : k t = 0
  · have hn : nk k s0 t = 0 := by have := nk_le k s0 t; omega
    rw [hn]
    have hidw2 := hidw
    rw [ib_zero hk, hk, F.cz t hk] at hidw2
    have := take_nil w.heap.size p sh (t * 68) (ib k b0 t) (Tk k s0 t) r (Sk k N - Tk k s0 t) (ptrs k b0 t) ((taken k b0 s0 t).map toPtr) bv (wr.setCell ⟨sh, t * 68 + 1, none⟩ (.int .i32 1)) (by omega) (by omega) (by omega)
      ((O.cell F.ps).trans S.cnt) ((O.frozen F.ps).trans S.cntz) hidw2 (by rw [World.frozen?_setCell]; exact S.sfz _)
      (ownsRow_only S.own O (own_far S.own (by omega))) F.ps (own_far S.own (by omega)) (own_far S.own (by omega))
    rw [ib_zero hk, hk, F.cz t hk]
    exact this
  · obtain ⟨L, hL1, hL2, hL3⟩ := S.row t ht (by omega)
    rw [mz] at hL3
    refine take_at w.heap.size p sh (t * 68) (ib k b0 t) (k t) (nk k s0 t) (c t) (Tk k s0 t) r (Sk k N - Tk k s0 t) (oi k b0 t) (ptrs k b0 t) ((taken k b0 s0 t).map toPtr) bv _ (by omega) (by omega) (by omega) (nk_le k s0 t) (by omega) (by omega)
      ((O.cell F.ps).trans S.cnt) ((O.frozen F.ps).trans S.cntz) hidw (by rw [World.frozen?_setCell]; exact S.sfz _) (ptrs_length k b0 t) (ptrs_one k b0 t)
      (.inr ⟨by omega, if_neg hk, F.ck t, F.cm t, L, (O.other _ (Ne.symm hib.2)).trans hL1, hL2, by simpa using hL3⟩)
      (ownsRow_only S.own O (own_far S.own (by omega))) (by rw [O.size]; exact S.size) F.ps hib.1 hib.2 (own_far S.own (by omega)) (own_far S.own (by omega)) (own_far S.own (F.ibr ht (by omega)).2)

theorem shr_step (F : Fx k b0 N p sh r c w) (S : Shr k b0 N p sh r c s0 w wr t bv) (ht : t < N) (hb0 : b0 ≤ w.heap.size) {wt : World} {bv' : Value}
    (T : Took w.heap.size (wr.setCell ⟨sh, t * 68 + 1, none⟩ (.int .i32 1)) wt p sh (t * 68 + 3) (ib k b0 t) (k t) (nk k s0 t) (c t) (Tk k s0 t) r (Sk k N - Tk k s0 t) (oi k b0 t) (ptrs k b0 t) ((taken k b0 s0 t).map toPtr) bv bv') :
    wt.cell? ⟨sh, t * 68 + 1, none⟩ = some (.int .i32 1) ∧ wt.frozen? ⟨sh, t * 68 + 1, none⟩ = false ∧ Shr k b0 N p sh r c s0 w (wt.setCell ⟨sh, t * 68 + 1, none⟩ (.int .i32 0)) (t + 1) bv' := by
  have O := Only.setCell sh (t * 68 + 1) wr (.int .i32 1)
  have O2 := Only.setCell sh (t * 68 + 1) wt (.int .i32 0)
  have q7 := F.pb
  have q8 := F.sb
  have sz : (wr.setCell ⟨sh, t * 68 + 1, none⟩ (.int .i32 1)).heap.size = wr.heap.size := O.size
  have h1 : wt.cell? ⟨sh, t * 68 + 1, none⟩ = some (.int .i32 1) := (T.scell _ (by omega)).trans (World.cell?_setCell_same wr ⟨sh, t * 68 + 1, none⟩ _ (S.mu t ht))
  have h2 : ∀ o, wt.frozen? ⟨sh, o, none⟩ = false := fun o => (T.sfz o).trans (by rw [World.frozen?_setCell]; exact S.sfz o)
  have nS : bv'.ownBlock ≠ some sh := by
    rcases T.lies with e | e
    · rw [e]; exact own_far S.own (by omega)
    · rw [e, sz]; intro h; injection h with h; have := S.size; omega
  refine ⟨h1, h2 _, ?_⟩
  exact {
    cnt := by
      rw [O2.cell F.ps, T.cnt, Tk_succ, Nat.sub_sub]
    cntz := by rw [O2.frozen F.ps, T.pfz, O.frozen F.ps]; exact S.cntz
    pcell := fun o ho => by rw [O2.cell F.ps, T.pcell o ho, O.cell F.ps]; exact S.pcell o ho
    mu := fun i hi => by
      by_cases e : i = t
      · subst e; exact World.cell?_setCell_same wt ⟨sh, i * 68 + 1, none⟩ _ h1
      · refine cell_setCell ?_ (by omega)
        rw [T.scell _ (by omega)]
        exact cell_setCell (S.mu i hi) (by omega)
    sfz := fun o => by rw [World.frozen?_setCell]; exact h2 o
    idl := fun i hi => by
      refine cell_setCell ?_ (by omega)
      by_cases e : i = t
      · subst e
        rw [show mt k s0 (i + 1) i = nk k s0 i from if_pos (by omega)]
        exact T.idl
      · rw [T.scell _ (by omega)]
        refine cell_setCell ?_ (by omega)
        rw [show mt k s0 (t + 1) i = mt k s0 t i by unfold mt; split <;> split <;> first | rfl | omega]
        exact S.idl i hi
    row := fun i hi hk => by
      have hr := F.ibr hi hk
      rw [O2.other _ (by omega)]
      by_cases e : i = t
      · subst e
        obtain ⟨L, hL1, hL2, hL3⟩ := T.row hk
        rw [show mt k s0 (i + 1) i = nk k s0 i from if_pos (by omega)]
        refine ⟨L, hL1, hL2, ?_⟩
        rw [hL3, List.take_of_length_le (by rw [ptrs_length]; exact Nat.le_refl _)]
      · rw [show mt k s0 (t + 1) i = mt k s0 t i by unfold mt; split <;> split <;> first | rfl | omega]
        obtain ⟨L, hL1, hL2, hL3⟩ := S.row i hi hk
        have hii := ib_in k b0 hk
        refine ⟨L, ?_, hL2, hL3⟩
        rw [T.other _ (by rw [sz]; have := S.size; omega) (by omega) (by omega) (fun hkt => Bs_ne k b0 e (Nat.le_of_lt hii.1) hii.2 (Nat.le_of_lt (ib_in k b0 hkt).1) (ib_in k b0 hkt).2) (Ne.symm (own_far S.own hr.2)), O.other _ (by omega)]
        exact hL1
    own := by
      have := ownsRow_only T.own O2 nS
      rw [ptrs_take k b0 t _ (nk_le k s0 t), ← List.map_append] at this
      exact this
    size := by
      rw [O2.size]
      have := T.size
      rw [sz] at this
      exact Nat.le_trans S.size this
    other := fun b hb hp hs hi => by
      rw [O2.other b hs, T.other b (by rw [sz]; exact Nat.lt_of_lt_of_le hb S.size) hp hs (fun hk => hi t ht hk) (Ne.symm (own_far S.own hb)), O.other b hs]
      exact S.other b hb hp hs hi
    os := T.os.trans S.os
    tape := T.tape.trans S.tape
    output := T.output.trans S.output }
end
end Go.Proofs.Ybulkeca
