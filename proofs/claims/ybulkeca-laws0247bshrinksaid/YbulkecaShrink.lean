import Derived.Test.YbulkecaShr
set_option linter.unusedVariables false
namespace Go.Proofs.Ybulkeca
open Go.RowKit

theorem named2 {P : Program} {f : FuncId} {args : Array Value} {w X W : World} {E : Ending} (h : Calls P f args w fun e w' => e = E ∧ w' = X) (hW : W = X) : Hid (Calls P f args w fun e w' => e = E ∧ W = w') :=
  hide (Calls.mono h fun e w' hh => ⟨hh.1, hW.trans hh.2.symm⟩)

structure Ended (k : Nat → Nat) (b0 N p sh r : Nat) (c : Nat → Nat) (s0 : Int) (w w' : World) : Prop where
  cnt : w'.cell? ⟨p, 76, none⟩ = some (.int .i64 (((Sk k N - Tk k s0 N : Nat) : Int) * 4294967296 + r))
  pcell : ∀ o, o ≠ 76 → w'.cell? ⟨p, o, none⟩ = w.cell? ⟨p, o, none⟩
  idl : ∀ i, i < N → w'.cell? ⟨sh, i * 68 + 3, none⟩ = some (.slice (oi k b0 i) (k i - nk k s0 i) (c i))
  row : ∀ i, i < N → 0 < k i → ∃ L : List Value, w'.heap[ib k b0 i]? = some (.cells L.toArray 72 (0, 0)) ∧ L.length = c i ∧ L.take (k i - nk k s0 i) = (ptrs k b0 i).drop (nk k s0 i)
  chs : ∀ i j, i < N → j < k i → w'.heap[ch k b0 i j]? = some (if j < nk k s0 i then shutCh else openCh)
  other : ∀ b, b < w.heap.size → b ≠ p → b ≠ sh → (∀ i, i < N → 0 < k i → b ≠ ib k b0 i) → (∀ i j, i < N → j < k i → b ≠ ch k b0 i j) → w'.heap[b]? = w.heap[b]?
  size : w.heap.size ≤ w'.heap.size
  os : w'.os = w.os
  tape : w'.tape = w.tape
  output : w'.output = w.output

section
variable {k : Nat → Nat} {b0 N p sh r : Nat} {c : Nat → Nat} {s0 : Int} {w wr : World} {bv : Value}

theorem Fx.chr (F : Fx k b0 N p sh r c w) {i j : Nat} (hi : i < N) (h : j < k i) : b0 < ch k b0 i j ∧ ch k b0 i j + 1 < w.heap.size ∧ (∀ i', i' < N → 0 < k i' → ch k b0 i j ≠ ib k b0 i' ∧ ch k b0 i j + 1 ≠ ib k b0 i') := by
  have h1 := ch_lt k b0 h
  have h2 := Bs_mono k b0 (Nat.zero_le i)
  have h3 := Bs_mono k b0 (i := i + 1) (j := N) hi
  have h4 := F.top
  refine ⟨?_, by omega, fun i' hi' hk' => ?_⟩
  · have : Bs k b0 0 = b0 := rfl
    omega
  · by_cases e : i = i'
    · subst e; omega
    · have h5 := ib_in k b0 hk'
      exact ⟨Bs_ne k b0 e (by omega) (by omega) (by omega) (by omega), Bs_ne k b0 e (by omega) (by omega) (by omega) (by omega)⟩

theorem shr_away (F : Fx k b0 N p sh r c w) (S : Shr k b0 N p sh r c s0 w wr N bv) (hb0 : b0 ≤ w.heap.size)
    (hop : ∀ i j, i < N → j < k i → w.heap[ch k b0 i j]? = some openCh) (htk : ∀ i j, i < N → j < k i → w.cell? ⟨ch k b0 i j + 1, 1, none⟩ = some (.chan (some (ch k b0 i j)))) :
    Calls Yba.prog 23 #[bv] wr fun e w' => (∃ v, e = .returned v) ∧ Ended k b0 N p sh r c s0 w w' := by
  have q7 := F.pb
  have q8 := F.sb
  have nk' := nk_le k s0
  have hlen := taken_length k b0 s0 N
  have hnd := taken_nodup k b0 s0 N
  have hmem : ∀ m, m < Tk k s0 N → ∃ i j, i < N ∧ j < nk k s0 i ∧ (taken k b0 s0 N).getD m 0 = ch k b0 i j := by
    intro m hm
    have : (taken k b0 s0 N).getD m 0 ∈ taken k b0 s0 N := by
      rw [List.getD_eq_getElem?_getD, List.getElem?_eq_getElem (by omega)]
      exact List.getElem_mem _
    exact (taken_mem k b0 s0 _ N).1 this
  have hsm : ∀ {b : Nat}, b < w.heap.size → b ≠ p → b ≠ sh → (∀ i, i < N → 0 < k i → b ≠ ib k b0 i) → wr.heap[b]? = w.heap[b]? := fun h1 h2 h3 h4 => S.other _ h1 h2 h3 h4
  have hch : ∀ i j, i < N → j < k i → wr.heap[ch k b0 i j]? = some openCh := fun i j hi hj => by
    have := F.chr hi hj
    rw [S.other _ (by omega) (by omega) (by omega) (fun i' h1 h2 => (this.2.2 i' h1 h2).1)]
    exact hop i j hi hj
  have hta : ∀ i j, i < N → j < k i → wr.cell? ⟨ch k b0 i j + 1, 1, none⟩ = some (.chan (some (ch k b0 i j))) := fun i j hi hj => by
    have := F.chr hi hj
    rw [World.cell?_of_block (a := ⟨ch k b0 i j + 1, 1, none⟩) (S.other (ch k b0 i j + 1) (by omega) (by omega) (by omega) (fun i' h1 h2 => (this.2.2 i' h1 h2).2))]
    exact htk i j hi hj
  have hinj : ∀ i j, i < Tk k s0 N → j < Tk k s0 N → (taken k b0 s0 N).getD i 0 = (taken k b0 s0 N).getD j 0 → i = j := by
    intro i j hi hj e
    rw [List.getD_eq_getElem?_getD, List.getD_eq_getElem?_getD, List.getElem?_eq_getElem (by omega), List.getElem?_eq_getElem (by omega)] at e
    simp only [Option.getD_some] at e
    rcases Nat.lt_trichotomy i j with h | h | h
    · exact absurd e (List.pairwise_iff_getElem.1 hnd i j (by omega) (by omega) h)
    · exact h
    · exact absurd e.symm (List.pairwise_iff_getElem.1 hnd j i (by omega) (by omega) h)
  obtain ⟨oa, g, cap, hbv, hM, hcm, hoa, hrow, hfz, hgw⟩ : ∃ oa g cap, bv = .slice oa (Tk k s0 N) cap ∧ Tk k s0 N ≤ cap ∧ cap ≤ maxLen ∧ (0 < Tk k s0 N → oa = some ⟨g, 0, none⟩) ∧
      (∀ i, 0 ≤ i → i < Tk k s0 N → wr.cell? ⟨g, i, none⟩ = some (.pointer (some ⟨(taken k b0 s0 N).getD i 0 + 1, 0, none⟩))) ∧ (0 < Tk k s0 N → ∀ j, wr.frozen? ⟨g, j, none⟩ = false) ∧ (0 < Tk k s0 N → w.heap.size ≤ g) := by
    rcases S.own.2 with ⟨h1, h2⟩ | ⟨g, cap, cur, h1, h2, h3, h4, h5, h6, h7⟩
    · exact ⟨none, 0, 0, by rw [h2]; exact h1, by omega, Nat.zero_le _, fun h => by omega, fun i _ h => by omega, fun h => by omega, fun h => by omega⟩
    · refine ⟨_, g, cap, h1, h4, h5, fun _ => rfl, fun i _ hi => ?_, fun _ j => by simp [World.frozen?, h3], fun _ => h2⟩
      have e1 : cur[i]? = ((taken k b0 s0 N).map toPtr)[i]? := by
        rw [← h7, List.getElem?_take, if_pos (by omega), Array.getElem?_toList]
      simp only [World.cell?, h3]
      rw [e1, List.getElem?_map, List.getElem?_eq_getElem (by omega)]
      simp [toPtr, List.getD_eq_getElem?_getD, List.getElem?_eq_getElem (show i < (taken k b0 s0 N).length by omega)]
  subst hbv
  refine Calls.mono (away_at wr oa g (Tk k s0 N) cap (fun m => (taken k b0 s0 N).getD m 0 + 1) (fun m => (taken k b0 s0 N).getD m 0) hM hcm hoa
    { row := hrow, fz := hfz, shut := fun i h => by omega, opn := fun i _ hi => ?_, same := fun _ _ _ => rfl, size := rfl, os := rfl, tape := rfl, output := rfl } (fun i hi => ?_) hinj (fun i hi => ?_)) ?_
  · obtain ⟨a, b, h1, h2, h3⟩ := hmem i hi
    show wr.heap[(taken k b0 s0 N).getD i 0]? = _
    rw [h3]; exact hch a b h1 (Nat.lt_of_lt_of_le h2 (nk' a))
  · obtain ⟨a, b, h1, h2, h3⟩ := hmem i hi
    show wr.cell? ⟨(taken k b0 s0 N).getD i 0 + 1, 1, none⟩ = some (.chan (some ((taken k b0 s0 N).getD i 0)))
    rw [h3]; exact hta a b h1 (Nat.lt_of_lt_of_le h2 (nk' a))
  · obtain ⟨a, b, h1, h2, h3⟩ := hmem i hi
    show (taken k b0 s0 N).getD i 0 + 1 ≠ g
    rw [h3]
    have := (F.chr h1 (Nat.lt_of_lt_of_le h2 (nk' a))).2.1
    have := hgw (by omega)
    omega
  · rintro e w' ⟨he, A⟩
    refine ⟨he, ?_⟩
    have hsame : ∀ b, b < w.heap.size → (∀ i j, i < N → j < k i → b ≠ ch k b0 i j) → w'.heap[b]? = wr.heap[b]? := fun b hb hc => A.same b (fun h => by have := hgw h; omega) (fun m hm e => by
      obtain ⟨a, b', h1, h2, h3⟩ := hmem m hm
      exact hc a b' h1 (Nat.lt_of_lt_of_le h2 (nk' a)) (by rw [e]; exact h3))
    have plt : p < w.heap.size := by omega
    have hpc : ∀ i j, i < N → j < k i → p ≠ ch k b0 i j := fun i j hi hj => by have := F.chr hi hj; omega
    have hsc : ∀ i j, i < N → j < k i → sh ≠ ch k b0 i j := fun i j hi hj => by have := F.chr hi hj; omega
    have mN : ∀ i, i < N → mt k s0 N i = nk k s0 i := fun i hi => if_pos hi
    exact {
      cnt := (World.cell?_of_block (a := ⟨p, 76, none⟩) (hsame p (by omega) hpc)).trans S.cnt
      pcell := fun o ho => (World.cell?_of_block (a := ⟨p, o, none⟩) (hsame p (by omega) hpc)).trans (S.pcell o ho)
      idl := fun i hi => by
        rw [World.cell?_of_block (a := ⟨sh, i * 68 + 3, none⟩) (hsame sh (by omega) hsc), ← mN i hi]
        exact S.idl i hi
      row := fun i hi hk => by
        have := F.ibr hi hk
        rw [hsame _ this.2 (fun i' j' h1 h2 => Ne.symm ((F.chr h1 h2).2.2 i hi hk).1), ← mN i hi]
        exact S.row i hi hk
      chs := fun i j hi hj => by
        by_cases hn : j < nk k s0 i
        · rw [if_pos hn]
          have hin : ch k b0 i j ∈ taken k b0 s0 N := (taken_mem k b0 s0 _ N).2 ⟨i, j, hi, hn, rfl⟩
          obtain ⟨m, hm, he⟩ := List.getElem_of_mem hin
          have := A.shut m (by omega)
          rw [List.getD_eq_getElem?_getD, List.getElem?_eq_getElem hm] at this
          simpa [he] using this
        · rw [if_neg hn, A.same _ (fun h => by have := hgw h; have := (F.chr hi hj).2.1; omega) (fun m hm e => by
            obtain ⟨a, b', h1, h2, h3⟩ := hmem m hm
            have := ch_inj k b0 hj (Nat.lt_of_lt_of_le h2 (nk' a)) (e.trans h3)
            obtain ⟨rfl, rfl⟩ := this
            exact hn h2)]
          exact hch i j hi hj
      other := fun b h1 h2 h3 h4 h5 => (hsame b h1 h5).trans (S.other b h1 h2 h3 h4)
      size := by rw [A.size]; exact S.size
      os := A.os.trans S.os
      tape := A.tape.trans S.tape
      output := A.output.trans S.output }
end

set_option maxHeartbeats 1000000 in
set_option maxRecDepth 100000 in
theorem shrink_at (k : Nat → Nat) (b0 N p sh r : Nat) (c : Nat → Nat) (s0 cp : Int) (w : World) (F : Fx k b0 N p sh r c w) (S : Shr k b0 N p sh r c s0 w w 0 (.slice none 0 0)) (hb0 : b0 ≤ w.heap.size)
    (hop : ∀ i j, i < N → j < k i → w.heap[ch k b0 i j]? = some openCh) (htk : ∀ i j, i < N → j < k i → w.cell? ⟨ch k b0 i j + 1, 1, none⟩ = some (.chan (some (ch k b0 i j))))
    (hcp : w.cell? ⟨p, 0, none⟩ = some (.int .i64 cp)) (hcp1 : -32768 ≤ cp) (hcp2 : cp ≤ 32767) (hsh : w.cell? ⟨p, 7, none⟩ = some (.slice (some ⟨sh, 0, none⟩) N N)) (hs0 : s0 = r + Sk k N - cp) :
    Calls Yba.prog 6 #[.pointer (some ⟨p, 0, none⟩)] w fun e w' => e = .returned (.tuple #[]) ∧ Ended k b0 N p sh r c s0 w w' := by
  have q1 := Sk_small k F.k15 N
  have q2 := F.n1
  have q3 := F.r1
  have K1 := hide (alive_at p 76 r (Sk k N) (by omega) (by omega) w (by have := S.cnt; simpa [Tk] using this))
  have K2 := hide (cap_at p cp w hcp)
  have HF := hide F
  have HS := hide S
  have HOP := hide hop
  have HTK := hide htk
  have HSH := hide hsh
  obtain ⟨D, hD⟩ : ∃ D, D = Sk k N := ⟨_, rfl⟩
  rw [← hD] at K1 q1 hs0
  have HS0 := hide hs0
  have hs1 : (-32768 : Int) ≤ s0 ∧ s0 ≤ 100000 := by omega
  clear F S hop htk hcp hs0
  go_enter Yba.func6, Yba.ntmps6
  go_upto_region 2 with (first
    | (go_at_call 19; refine Calls.mono K1.out ?_; rintro e w' ⟨rfl, rfl⟩)
    | (go_at_call 10; refine Calls.mono K2.out ?_; rintro e w' ⟨rfl, rfl⟩))
  go_wp2
  go_loopw [19, 2, 3] (fun i s a wr => ∃ t : Nat, t ≤ N ∧ i = .int .i64 t ∧ s = .int .i64 (s0 - Tk k s0 t) ∧ Shr k b0 N p sh r c s0 w wr t a) (fun i _ _ _ => N - (intOf i).toNat)
  case atStart => exact ⟨0, Nat.zero_le _, rfl, by rw [HS0.out, hD]; simp [Tk], HS.out⟩
  case round =>
    obtain ⟨t, ht, rfl, rfl, hS⟩ := hrel
    clear HS hsh HS0
    obtain ⟨s, hs⟩ : ∃ s, s = s0 - Tk k s0 t := ⟨_, rfl⟩
    rw [← hs]
    have a7 : wr.cell? ⟨p, 7, none⟩ = some (.slice (some ⟨sh, 0, none⟩) N N) := (hS.pcell 7 (by decide)).trans HSH.out
    by_cases hlt : t < N
    · obtain ⟨wl, hwl⟩ : ∃ wl, wl = wr.setCell ⟨sh, t * 68 + 1, none⟩ (.int .i32 1) := ⟨_, rfl⟩
      have KL := named2 (lock_at sh (t * 68 + 1) wr (hS.mu t hlt) (hS.sfz _)) hwl
      have KT := hide (shr_take HF.out hS hlt hb0)
      have O1 := Only.setCell sh (t * 68 + 1) wr (.int .i32 1)
      have d1 := HF.out.ps
      have d0 := HF.out.k15 t
      have hid := hS.idl t hlt
      rw [show mt k s0 t t = 0 from if_neg (Nat.lt_irrefl _), Nat.sub_zero] at hid
      have b1 : wl.cell? ⟨sh, t * 68 + 3, none⟩ = some (.slice (oi k b0 t) (k t) (c t)) := by rw [hwl]; exact cell_setCell hid (by omega)
      have HST := hide (fun wt bv' T => shr_step HF.out hS hlt hb0 (wt := wt) (bv' := bv') T)
      rw [← hwl] at O1
      have b7 : wl.cell? ⟨p, 7, none⟩ = some (.slice (some ⟨sh, 0, none⟩) N N) := (O1.cell d1).trans a7
      rw [← hwl] at KT HST
      have Tb := Tk_le k s0 t
      have Ts := Sk_small k HF.out.k15 t
      have nki := nk_int k s0 t
      have nkl := nk_le k s0 t
      rw [← hs] at nki
      have hn : (if (k t : Int) < (if s < 0 then 0 else s) then (k t : Int) else (if s < 0 then 0 else s)) = (nk k s0 t : Int) := by
        rw [nki]
        split <;> split <;> omega
      have HN := hide hn
      have sb : s = s0 - Tk k s0 t := hs
      have HSS := hide hs
      have hsb : (-100000 : Int) ≤ s ∧ s ≤ 100000 := by omega
      clear hid O1 hwl hS hn nki sb hs
      go_upto_region 7 with (go_at_call 20; refine Calls.mono KL.out ?_; rintro e w' ⟨rfl, rfl⟩)
      go_upto_region 8 with fail
      rw [HN.out]
      have hnn : (0 : Int) ≤ nk k s0 t ∧ (nk k s0 t : Int) ≤ 15 := by omega
      go_upto_region 9 with (go_at_call 21; refine Calls.mono KT.out ?_; rintro e wt ⟨bv', rfl, hT⟩)
      obtain ⟨hm1, hm2, hS2⟩ := HST.out wt bv' hT
      have KU := hide (unlock_at sh (t * 68 + 1) wt hm1 hm2)
      have HS2 := hide hS2
      clear hT hm1 hm2 hS2 HST a7 b1 b7
      go_upto_region 11 with (go_at_call 22; refine Calls.mono KU.out ?_; rintro e w' ⟨rfl, rfl⟩)
      go_wp2
      go_roundw
      case rel => exact ⟨t + 1, by omega, by go_num, by rw [HSS.out, Tk_succ]; congr 1; omega, HS2.out⟩
      case measure => simp [intOf]; omega
    · obtain rfl : t = N := by omega
      have KA := hide (shr_away HF.out hS hb0 HOP.out HTK.out)
      clear hS
      go_wp2_with (go_at_call 23; refine Calls.mono KA.out ?_; rintro e w' ⟨⟨v, rfl⟩, hFin⟩)
      go_end0
      exact ⟨rfl, hFin⟩
end Go.Proofs.Ybulkeca
