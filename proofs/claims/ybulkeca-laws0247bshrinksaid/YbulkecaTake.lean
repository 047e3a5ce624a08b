import Derived.Test.YbulkecaRowLaw
set_option linter.unusedVariables false
namespace Go.Proofs.Ybulkeca
open Go.RowKit

theorem info72 : (Yba.prog.info? 72).map (fun i => (i.zero, i.size, i.bytes)) = some (some (.pointer none), 1, 8) := by kernel_rfl
theorem size72 : (Yba.prog.info? 72).map (·.size) = some 1 := by kernel_rfl

structure Took (H : Nat) (w w' : World) (p sh o3 I k n c m r d : Nat) (oa : Option Addr) (L xs : List Value) (bv bv' : Value) : Prop where
  cnt : w'.cell? ⟨p, 76, none⟩ = some (.int .i64 (((d - n : Nat) : Int) * 4294967296 + r))
  idl : w'.cell? ⟨sh, o3, none⟩ = some (.slice oa (k - n) c)
  row : 0 < k → ∃ L' : List Value, w'.heap[I]? = some (.cells L'.toArray 72 (0, 0)) ∧ L'.length = c ∧ L'.take (k - n) = (L.take k).drop n
  own : w'.ownsRow H 72 1 bv' (m + n) (xs ++ L.take n)
  lies : bv'.ownBlock = bv.ownBlock ∨ bv'.ownBlock = some w.heap.size
  size : w.heap.size ≤ w'.heap.size
  other : ∀ b, b < w.heap.size → b ≠ p → b ≠ sh → (0 < k → b ≠ I) → some b ≠ bv.ownBlock → w'.heap[b]? = w.heap[b]?
  pcell : ∀ o, o ≠ 76 → w'.cell? ⟨p, o, none⟩ = w.cell? ⟨p, o, none⟩
  scell : ∀ o, o ≠ o3 → w'.cell? ⟨sh, o, none⟩ = w.cell? ⟨sh, o, none⟩
  pfz : ∀ o, w'.frozen? ⟨p, o, none⟩ = w.frozen? ⟨p, o, none⟩
  sfz : ∀ o, w'.frozen? ⟨sh, o, none⟩ = w.frozen? ⟨sh, o, none⟩
  os : w'.os = w.os
  tape : w'.tape = w.tape
  output : w'.output = w.output

theorem ownsRow_only {H g : Nat} {w w' : World} {v : Value} {n : Nat} {xs : List Value} (h : w.ownsRow H 72 1 v n xs) (ho : Only g w w') (hg : v.ownBlock ≠ some g) : w'.ownsRow H 72 1 v n xs := by
  refine ⟨h.1, ?_⟩
  rcases h.2 with h2 | ⟨b, cap, cur, rfl, h3, h4, h5⟩
  · exact .inl h2
  · refine .inr ⟨b, cap, cur, rfl, h3, ?_, h5⟩
    rw [ho.other b (fun e => hg (by simp [Value.ownBlock, e]))]
    exact h4

theorem take_row {L : List Value} {k n c : Nat} (hL : L.length = c) (hk : k ≤ c) (hn : n ≤ k) :
    (splice (splice L 0 ((L.take k).drop n)) (k - n) (List.replicate n (Value.pointer none))).length = c ∧ (splice (splice L 0 ((L.take k).drop n)) (k - n) (List.replicate n (Value.pointer none))).take (k - n) = (L.take k).drop n := by
  have e1 : ((L.take k).drop n).length = k - n := by simp; omega
  have e2 : (splice L 0 ((L.take k).drop n)).length = c := by rw [length_splice _ _ _ (by rw [e1]; omega), hL]
  refine ⟨by rw [length_splice _ _ _ (by rw [e2]; simp; omega), e2], ?_⟩
  generalize (L.take k).drop n = X at e1 e2 ⊢
  rw [← e1]
  have e3 : splice L 0 X = X ++ L.drop X.length := by simp [splice]
  rw [e3]
  unfold splice
  rw [List.take_left' (List.take_left' rfl ▸ rfl)]
  exact List.take_left' rfl

theorem took_mk {H p sh o3 I k n c m r d q : Nat} {L xs X : List Value} {bv bv' : Value} {w w1 w2 w3 w4 : World} (hq : q + n = k) (hk : 0 < k) (hkc : k ≤ c) (hX : X = (L.take k).drop n) (hL : L.length = c)
    (hcnt : w.cell? ⟨p, 76, none⟩ = some (.int .i64 ((d : Int) * 4294967296 + r)))
    (hw1 : w1 = w.setCell ⟨p, 76, none⟩ (.int .i64 (((d - n : Nat) : Int) * 4294967296 + r))) (O1 : Only p w w1)
    (G : w2.ownsRow H 72 1 bv' (m + n) (xs ++ L.take n) ∧ w1.grownBy w2 bv.ownBlock ∧ (bv'.ownBlock = bv.ownBlock ∨ bv'.ownBlock = some w1.heap.size))
    (O3 : Only I w2 w3) (O4 : Only I w3 w4) (hg4 : w4.heap[I]? = some (.cells (splice (splice L 0 X) q (List.replicate (k - q) (.pointer none))).toArray 72 (0, 0))) (e1 : w4.cell? ⟨sh, o3, none⟩ = some (.slice (some ⟨I, 0, none⟩) k c))
    (plt : p < w.heap.size) (slt : sh < w.heap.size) (ilt : I < w.heap.size)
    (d1 : p ≠ sh) (d2 : p ≠ I) (d3 : sh ≠ I) (d4 : bv.ownBlock ≠ some p) (d5 : bv.ownBlock ≠ some sh) (d6 : bv.ownBlock ≠ some I) :
    Took H w (w4.setCell ⟨sh, o3, none⟩ (.slice (some ⟨I, 0, none⟩) q c)) p sh o3 I k n c m r d (some ⟨I, 0, none⟩) L xs bv bv' := by
  obtain ⟨g1, g2, g3⟩ := G
  have O5 := Only.setCell sh o3 w4 (.slice (some ⟨I, 0, none⟩) q c)
  obtain ⟨w5, hw5⟩ : ∃ w5, w5 = w4.setCell ⟨sh, o3, none⟩ (.slice (some ⟨I, 0, none⟩) q c) := ⟨_, rfl⟩
  rw [← hw5] at O5 ⊢
  have O34 := O3.trans O4
  have sz1 : w1.heap.size = w.heap.size := O1.size
  have hqk : q = k - n := by omega
  have hkq : k - q = n := by omega
  have T := take_row hL hkc (show n ≤ k by omega)
  rw [← hX, ← hqk] at T
  rw [hkq] at hg4
  have nI : bv'.ownBlock ≠ some I := by
    rcases g3 with e | e
    · rw [e]; exact d6
    · rw [e, sz1]; intro h; injection h with h; omega
  have nS : bv'.ownBlock ≠ some sh := by
    rcases g3 with e | e
    · rw [e]; exact d5
    · rw [e, sz1]; intro h; injection h with h; omega
  have hb : ∀ b, b < w.heap.size → b ≠ sh → b ≠ I → some b ≠ bv.ownBlock → w5.heap[b]? = w1.heap[b]? := fun b h1 h2 h3 h4 =>
    (O5.other b h2).trans ((O34.other b h3).trans (g2.block b (by rw [sz1]; exact h1) h4))
  exact {
    cnt := by
      rw [World.cell?_of_block (a := ⟨p, 76, none⟩) (hb p plt d1 d2 (Ne.symm d4)), hw1]
      exact World.cell?_setCell_same w ⟨p, 76, none⟩ _ hcnt
    idl := by
      rw [hw5, ← hqk]
      exact World.cell?_setCell_same w4 ⟨sh, o3, none⟩ _ e1
    row := fun _ => ⟨_, (O5.other I (Ne.symm d3)).trans hg4, T.1, by rw [← hqk, ← hX]; exact T.2⟩
    own := ownsRow_only (ownsRow_only g1 O34 nI) O5 nS
    lies := by rw [← sz1]; exact g3
    size := by rw [O5.size, O34.size, ← sz1]; exact g2.size
    other := fun b h1 h2 h3 h4 h5 => (hb b h1 h3 (h4 hk) h5).trans (O1.other b h2)
    pcell := fun o ho => by
      rw [World.cell?_of_block (a := ⟨p, o, none⟩) (hb p plt d1 d2 (Ne.symm d4)), hw1]
      exact World.cell?_setCell_other _ _ _ _ (by intro h; injection h with h1 h2; exact ho h2.symm)
    scell := fun o ho => by
      rw [hw5]
      refine (World.cell?_setCell_other _ _ _ _ (by intro h; injection h with h1 h2; exact ho h2.symm)).trans ?_
      exact (O34.cell d3).trans ((World.cell?_of_block (a := ⟨sh, o, none⟩) (g2.block sh (by rw [sz1]; exact slt) (Ne.symm d5))).trans (O1.cell (Ne.symm d1)))
    pfz := fun o => by
      rw [World.frozen?_of_block (a := ⟨p, o, none⟩) (hb p plt d1 d2 (Ne.symm d4)), hw1]
      exact World.frozen?_setCell _ _ _ _
    sfz := fun o => by
      rw [hw5, World.frozen?_setCell]
      exact (O34.frozen d3).trans ((World.frozen?_of_block (a := ⟨sh, o, none⟩) (g2.block sh (by rw [sz1]; exact slt) (Ne.symm d5))).trans (O1.frozen (Ne.symm d1)))
    os := O5.os.trans (O34.os.trans (g2.os.trans O1.os))
    tape := O5.tape.trans (O34.tape.trans (g2.tape.trans O1.tape))
    output := O5.output.trans (O34.output.trans (g2.output.trans O1.output)) }

set_option maxHeartbeats 1000000 in
set_option maxRecDepth 100000 in
theorem take_pos (H p sh so I k n c m r d : Nat) (L xs : List Value) (bv : Value) (w : World) (hr : r < 4294967296) (hd : d ≤ 1048576) (hnd : n ≤ d) (hnk : n ≤ k) (hk : 0 < k) (hkc : k ≤ c) (hc : c ≤ maxLen) (hm : m ≤ 1000000) (hk2 : k ≤ 1000)
    (hcnt : w.cell? ⟨p, 76, none⟩ = some (.int .i64 ((d : Int) * 4294967296 + r))) (hcz : w.frozen? ⟨p, 76, none⟩ = false)
    (hidl : w.cell? ⟨sh, so + 3, none⟩ = some (.slice (some ⟨I, 0, none⟩) k c)) (hiz : w.frozen? ⟨sh, so + 3, none⟩ = false)
    (hrow : w.heap[I]? = some (.cells L.toArray 72 (0, 0))) (hL : L.length = c) (h1 : ∀ v ∈ L.take k, v.oneCell' = true) (hown : w.ownsRow H 72 1 bv m xs) (hH : H ≤ w.heap.size)
    (d1 : p ≠ sh) (d2 : p ≠ I) (d3 : sh ≠ I) (d4 : bv.ownBlock ≠ some p) (d5 : bv.ownBlock ≠ some sh) (d6 : bv.ownBlock ≠ some I) :
    Calls Yba.prog 21 #[.pointer (some ⟨p, 0, none⟩), .pointer (some ⟨sh, so, none⟩), .int .i64 (n : Int), bv] w fun e w' => ∃ bv', e = .returned bv' ∧ Took H w w' p sh (so + 3) I k n c m r d (some ⟨I, 0, none⟩) L xs bv bv' := by
  obtain ⟨i72, hi, hz, hs, hby⟩ := info_parts info72
  have K1 := hide (exit_at p 76 n r d hr hd hnd w hcnt hcz)
  obtain ⟨w1, hw1⟩ : ∃ w1, w1 = w.setCell ⟨p, 76, none⟩ (.int .i64 (((d - n : Nat) : Int) * 4294967296 + r)) := ⟨_, rfl⟩
  have O1 : Only p w w1 := by rw [hw1]; exact Only.setCell p 76 w _
  have a1 : w1.cell? ⟨sh, so + 3, none⟩ = some (.slice (some ⟨I, 0, none⟩) k c) := (O1.cell (Ne.symm d1)).trans hidl
  have a2 : w1.heap[I]? = some (.cells L.toArray 72 (0, 0)) := (O1.other I (Ne.symm d2)).trans hrow
  have a3 := ownsRow_only hown O1 d4
  have plt := World.block_lt_of_cell? _ _ hcnt
  have slt := World.block_lt_of_cell? _ _ hidl
  have ilt : I < w.heap.size := (Array.getElem?_eq_some_iff.1 hrow).1
  have F := hide (show Only p w w1 ∧ w1.frozen? ⟨sh, so + 3, none⟩ = false from ⟨O1, (O1.frozen (Ne.symm d1)).trans hiz⟩)
  have HC := hide hcnt
  unfold maxLen at hc
  clear hcnt hcz hidl hiz hrow hown O1
  rw [← hw1] at K1
  have HW := hide hw1
  have HO := hide a3
  have HR := hide a2
  have HIN : ∀ j, j < L.length → w1.cell? ⟨I, j, none⟩ = some (L.getD j undef) := by
    intro j hj
    simp [World.cell?, a2, hj, List.getD]
  have HIH := hide HIN
  clear hw1 a3 a2 HIN
  go_enter Yba.func21, Yba.ntmps21
  go_upto_region 2 with (go_at_call 37; refine Calls.mono K1.out ?_; rintro e w1 ⟨rfl, rfl⟩)
  go_upto_region 3 with (at_builtin; refine wpList_append_own_at _ rfl _ _ 69 rfl H 72 i72 (.pointer none) 1 8 Yba.underlying69 hi hz hs hby rfl (by decide) bv m xs rfl HO.out ⟨I, 0, none⟩ n c (L.take n) rfl (by simp; omega) ?_ (fun v hv => h1 v (by rw [show L.take n = (L.take k).take n by rw [List.take_take, Nat.min_eq_left hnk]] at hv; exact List.mem_of_mem_take hv)) (by unfold maxLen; omega) (by omega) (by rw [F.out.1.size]; exact hH) ?_)
  case refine_1 =>
    intro j u hj
    have hj2 : j < n := by
      have := (List.getElem?_eq_some_iff.1 hj).1
      simp at this; omega
    rw [List.getElem?_take, if_pos hj2] at hj
    have := HIH.out j (by omega)
    simp [List.getD, hj] at this
    simp only [Addr.add]
    split
    · next h0 => subst h0; simpa using this
    · simpa using this
  intro bv' w2 hown2 hgr _ hat
  have G := hide (show w2.ownsRow H 72 1 bv' (m + n) (xs ++ L.take n) ∧ w1.grownBy w2 bv.ownBlock ∧ (bv'.ownBlock = bv.ownBlock ∨ bv'.ownBlock = some w1.heap.size) from ⟨hown2, hgr, hat⟩)
  have b1 : w2.cell? ⟨sh, so + 3, none⟩ = some (.slice (some ⟨I, 0, none⟩) k c) := hgr.cell a1 (Ne.symm d5)
  have b2 : w2.heap[I]? = some (.cells L.toArray 72 (0, 0)) := (hgr.block I (by rw [F.out.1.size]; exact ilt) (Ne.symm d6)).trans HR.out
  have B2 := hide b2
  clear hown2 hgr hat a1 b2
  have HIN2 := hide (show ∀ j v, ((L.take k).drop n)[j]? = some v → w2.cell? ((⟨I, n, none⟩ : Addr).add j) = some v by
    intro j v hj
    rw [List.getElem?_drop, List.getElem?_take] at hj
    split at hj
    · simp only [Addr.add]
      split
      · next h0 => subst h0; simpa [World.cell?, B2.out] using hj
      · simp [World.cell?, B2.out, hj]
    · cases hj)
  obtain ⟨X, hX⟩ : ∃ X, X = (L.take k).drop n := ⟨_, rfl⟩
  rw [← hX] at HIN2
  obtain ⟨q, hq⟩ : ∃ q, q + n = k := ⟨k - n, by omega⟩
  have hXl : X.length = q := by rw [hX]; simp; omega
  have q1 : (q : Int) ≤ k := by omega
  have q2 : (q : Int) ≤ c := by omega
  have HX := hide hX
  have HX1 := hide (show ∀ v ∈ X, v.oneCell' = true by rw [hX]; exact fun v hv => h1 v (List.mem_of_mem_drop hv))
  clear hX
  have n0 : (0 : Int) ≤ n := by omega
  have n1 : (n : Int) ≤ k := by omega
  have F2 : w2.frozen? ⟨sh, so + 3, none⟩ = false := (World.frozen?_of_block (a := ⟨sh, so + 3, none⟩) (G.out.2.1.block sh (by rw [F.out.1.size]; exact slt) (Ne.symm d5))).trans F.out.2
  have HF2 := hide F2
  clear F2
  go_wp2
  go_region_law (refine step_copy_only rfl (.tmp 26) (.tmp 32) 69 69 rfl 72 Yba.underlying69 size72 _ _ _ _ _ _ rfl rfl I 0 L 72 X (by rw [hXl, show k - n = q by omega]; exact (Nat.min_eq_left (by omega)).symm) w2 ⟨fun _ _ => rfl, rfl, rfl, rfl, rfl⟩ B2.out (by intro h; exact ⟨rfl, ⟨I, n, none⟩, if_neg (by omega), HIN2.out⟩) (by omega) HX1.out ?_; intro w3 HG3 hO3)
  all_goals
    have c1 : w3.cell? ⟨sh, so + 3, none⟩ = some (.slice (some ⟨I, 0, none⟩) k c) := (hO3.cell d3).trans b1
    have O3 := hide hO3
    clear hO3 b1
    generalize (if c = n then some (⟨I, 0, none⟩ : Addr) else some ⟨I, n, none⟩) = sp
    obtain ⟨w4, hrun, hg4, hO4⟩ := clear_only 0 (k - q) I q (splice L 0 X) 72 HG3.out (by rw [length_splice _ _ _ (by omega)]; omega)
    have HRN := hide hrun
    have e1 : w4.cell? ⟨sh, so + 3, none⟩ = some (.slice (some ⟨I, 0, none⟩) k c) := (hO4.cell d3).trans c1
    have e2 : w4.frozen? ⟨sh, so + 3, none⟩ = false := ((hO4.frozen d3).trans (O3.out.frozen d3)).trans HF2.out
    have T : Took H w (w4.setCell ⟨sh, so + 3, none⟩ (.slice (some ⟨I, 0, none⟩) q c)) p sh (so + 3) I k n c m r d (some ⟨I, 0, none⟩) L xs bv bv' :=
      took_mk hq hk hkc HX.out hL HC.out HW.out F.out.1 G.out O3.out hO4 hg4 e1 plt slt ilt d1 d2 d3 d4 d5 d6
    have HT := hide T
    clear hrun hg4 hO4 T
    by_cases hcq : c = q
    · subst hcq
      go_upto_region 5 with fail
      have HR0 := HRN.out
      rw [show k - c = 0 by omega] at HR0
      rw [HR0 _ _ (by intro h; exfalso; omega)]
      clear HR0
      clear c1
      go_wp2
      go_ret
      exact ⟨_, rfl, HT.out⟩
    · go_upto_region 5 with fail
      rw [HRN.out _ _ (by intro _; rfl)]
      clear c1
      go_wp2
      go_ret
      exact ⟨_, rfl, HT.out⟩
end Go.Proofs.Ybulkeca
