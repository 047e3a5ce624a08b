import Derived.Test.YbulkdzwEv
import Derived.Deep.DeepCutAuto
set_option linter.unusedVariables false
namespace Go.Proofs.Ybulkdzw
open Go.RowKit

theorem ret_tr {b : Bool} (h : b = true) : Ending.returned (.bool b) = .returned (.bool true) := by rw [h]

set_option maxRecDepth 100000 in
set_option maxHeartbeats 1000000 in
theorem lawA_walk (b0 o0 N cap0 : Nat) (a1 : Option Addr) (M cap1 : Nat) (sel : Int) (w : World) (b1 o1 : Nat) (cx : Nat → Nat → Int) (fo : Nat → Int) (hN0 : 0 < N) (hN : N ≤ 1024) (hM : M ≤ 1024)
    (hb0 : b0 < w.heap.size) (hc0 : ∀ i k, i < N → k < 4 → w.cell? ⟨b0, o0 + i * 4 + k, none⟩ = some (.int .u8 (cx i k)) ∧ 0 ≤ cx i k ∧ cx i k ≤ 255)
    (ha1 : 0 < M → a1 = some ⟨b1, o1, none⟩ ∧ b1 < w.heap.size) (hc1 : ∀ j, j < M → w.cell? ⟨b1, o1 + j, none⟩ = some (.int .u8 (fo j)) ∧ 0 ≤ fo j ∧ fo j ≤ 255) (hs0 : 0 ≤ sel) (hs1 : sel ≤ 255) :
    Calls Yba.prog 3 #[.slice (some ⟨b0, o0, none⟩) N cap0, .slice a1 M cap1, .int .u8 sel] w fun e w' => e = .returned (.bool true) ∧ Below w.heap.size w w' := by
  obtain ⟨i33, hi33, hz33, hs33, hb33⟩ := info_parts Yba.info33
  obtain ⟨i31, hi31, hz31, hs31, hb31⟩ := info_parts Yba.info31
  have HC0 := hide hc0
  have HC1 := hide hc1
  clear hc0 hc1
  go_enter Yba.func3, Yba.ntmps3
  go_wp2_with (at_make; refine wpList_make_full _ rfl _ _ 24 rfl w.heap.size 33 i33 _ 6 Yba.underlying24 hi33 hz33 hs33 _ _ _ _ N rfl rfl rfl rfl (by rw [hb33]; omega) (by unfold maxLen; omega) (Nat.le_refl _) ?_; intro w1 hown1 hgrow1)
  have HE : Hid (Ev w w1 N 0 cx) := ev_start hown1 hgrow1
  clear hown1 hgrow1
  go_loopw [39] (fun i wr => ∃ k : Nat, k ≤ N ∧ i = .int .i64 k ∧ Ev w wr N k cx) (fun i _ => N - (intOf i).toNat)
  case atStart => exact ⟨0, Nat.zero_le _, rfl, HE.out⟩
  case round =>
    obtain ⟨i, hi, rfl, hE⟩ := hrel
    obtain ⟨wo, hwo⟩ : ∃ wo, wo = wr := ⟨_, rfl⟩
    subst hwo
    have HE := hide hE
    clear hE
    by_cases hlt : i < N
    · go_wp2
      go_loopw [9, 10] (fun v k wr => ∃ q : Nat, q ≤ 4 ∧ k = .int .i64 q ∧ Clk wr wo.heap.size (cx i) q v ∧ Below wo.heap.size wo wr) (fun _ k _ => 4 - (intOf k).toNat)
      case atStart => exact ⟨0, Nat.zero_le _, rfl, World.ownsRow_nil _ _ _ _, Below.refl _ _⟩
      case round =>
        obtain ⟨q, hq, rfl, hC, bel2⟩ := hrel
        have HCK := hide hC
        clear hC
        by_cases hq4 : q < 4
        · obtain ⟨hc, hx0, hx1⟩ := HC0.out i q hlt hq4
          have belw : Below w.heap.size w wr := HE.out.bel.trans (bel2.mono HE.out.bel.size)
          have d0 : wr.cell? ⟨b0, o0 + i * 4 + q, none⟩ = some (.int .u8 (cx i q)) := (belw.cell hb0).trans hc
          clear hc
          by_cases hz : cx i q = 0
          · have hz' : (cx i q != 0) = false := by simp [hz]
            have HZ := hide hz
            clear hz
            go_wp2
            go_roundw
            case rel => exact ⟨q + 1, by omega, by go_num, HCK.out.zero HZ.out, bel2⟩
            case measure => simp [intOf]; omega
          · have hz' : (cx i q != 0) = true := by simp [hz]
            have HZ := hide hz
            clear hz
            go_upto_region 12 with fail
            have hl4 := ents_len (cx i) q
            have hwr := IntWalk.u64_in (cx i q) ⟨hx0, by omega⟩
            go_region_law (first
              | (refine step_host rfl 54 rfl q (by simp [Act.put]) (by omega) ?_)
              | (refine step_append_own rfl (.tmp 53) (.tmp 64) 26 rfl wo.heap.size 31 i31 _ 2 24 Yba.underlying26 hi31 hz31 hs31 hb31 rfl (by decide) u9 (ents (cx i) q).length (entCells (ents (cx i) q)) (by simp [Act.eval]) ⟨wr.heap.size, 0, none⟩ 1 [.string (hn q), .int .u64 (cx i q)] (by simp [Act.eval]) (by exact (HCK.out.alloc _)) rfl (by exact two_cells _ _ _ _) (by simp [Value.oneCell']) (by unfold maxLen; omega) (by omega) (by have := bel2.size; simp; omega) ?_; intro v' w2 hown2 hgrow2))
            all_goals
              have HK2 : Hid _ := Clk.push hown2 HZ.out
              have HB2 : Hid (Below wo.heap.size wo w2) := clk_below bel2 HCK.out hgrow2
              clear hown2 hgrow2
              go_wp2
              go_roundw
              case rel => exact ⟨q + 1, by omega, by go_num, HK2.out, HB2.out⟩
              case measure => simp [intOf]; omega
        · obtain rfl : q = 4 := by omega
          obtain ⟨f0, e0⟩ := HE.out.cells bel2
          obtain ⟨x0, g0⟩ := e0 (i * 6) (by omega)
          obtain ⟨x1, g1⟩ := e0 (i * 6 + 1) (by omega)
          obtain ⟨x2, g2⟩ := e0 (i * 6 + 2) (by omega)
          obtain ⟨x3, g3⟩ := e0 (i * 6 + 3) (by omega)
          obtain ⟨x4, g4⟩ := e0 (i * 6 + 4) (by omega)
          obtain ⟨x5, g5⟩ := e0 (i * 6 + 5) (by omega)
          clear e0
          obtain ⟨ao, ln, cp, rfl⟩ := HCK.out.shape
          go_wp2
          go_roundw
          case rel => exact ⟨i + 1, by omega, by go_num, HE.out.store hlt bel2 HCK.out⟩
          case measure => simp [intOf]; omega
    · obtain rfl : i = N := by omega
      obtain ⟨i3, hi3, hz3, hs3, hb3⟩ := info_parts Yba.info3
      have hsz := HE.out.sz
      have belz := HE.out.bel
      go_wp2_with (at_make; refine wpList_make_full _ rfl _ _ 34 rfl wo.heap.size 3 i3 _ 1 Yba.underlying34 hi3 hz3 hs3 _ _ _ _ M rfl rfl rfl rfl (by rw [hb3]; omega) (by unfold maxLen; omega) (Nat.le_refl _) ?_; intro w2 hown2 hgrow2)
      have HFl : Hid (Fl wo w2 M 0 i fo) := fl_start hown2 hgrow2
      clear hown2 hgrow2
      go_loopw [80] (fun j wr => ∃ k : Nat, k ≤ M ∧ j = .int .i64 k ∧ Fl wo wr M k i fo) (fun j _ => M - (intOf j).toNat)
      case atStart => exact ⟨0, Nat.zero_le _, rfl, HFl.out⟩
      case round =>
        clear HFl
        obtain ⟨k, hk, rfl, hF⟩ := hrel
        have HF := hide hF
        clear hF
        by_cases hkM : k < M
        · obtain ⟨rfl, hb1⟩ := ha1 (by omega)
          obtain ⟨hc, h0, h1⟩ := HC1.out k hkM
          have d0 : wr.cell? ⟨b1, o1 + k, none⟩ = some (.int .u8 (fo k)) := (HF.out.bel.cell (p := ⟨b1, o1 + k, none⟩) (by have := belz.size; simp only; omega)).trans ((belz.cell hb1).trans hc)
          obtain ⟨f0, x, e0⟩ := HF.out.cells hkM
          clear hc
          go_wp2
          go_roundw
          case rel => exact ⟨k + 1, by omega, by go_num, HF.out.store hkM⟩
          case measure => simp [intOf]; omega
        · obtain rfl : k = M := by omega
          obtain ⟨t, ht⟩ : ∃ t : Nat, sel % 5 = (t : Int) := ⟨(sel % 5).toNat, by omega⟩
          have ht5 : t < 5 := by omega
          go_upto_region 24 with fail
          rw [ht]
          clear ht
          go_upto_region 26 with (go_at_call 5; refine (host_any t _ ht5).mono ?_; rintro e w' ⟨rfl, rfl⟩)
          have hfx := HF.out.fl
          obtain ⟨cur, hcur, hcs, hcl⟩ := hfx
          have bw6 : Below wr.heap.size wr (wr.alloc (.cells #[.slice (some ⟨w.heap.size, 0, none⟩) i i, .map none, .slice none 0 0, .slice none 0 0] 39)) := (Below.refl _ _).alloc (Nat.le_refl _) _
          obtain ⟨cv, hL⟩ := HE.out.log (P := wr.heap.size) (HF.out.bel.trans (bw6.mono HF.out.bel.size)) (by simp) (by simp)
          have hFlt : wo.heap.size < wr.heap.size := by have := HF.out.sz; omega
          have hfj : ∀ p, p < k → wr.cell? ⟨wo.heap.size, p, none⟩ = some (.int .i64 (((fo p % (i : Int)).toNat : Nat) : Int)) ∧ (fo p % (i : Int)).toNat < i := by
            intro p hp
            have hpos : 0 ≤ fo p % (i : Int) := Int.emod_nonneg _ (by omega)
            have hlt' : fo p % (i : Int) < (i : Int) := Int.emod_lt_of_pos _ (by omega)
            refine ⟨?_, by omega⟩
            rw [Int.toNat_of_nonneg hpos]
            simp only [World.cell?, hcur]
            simpa using hcl p hp
          have hC := largest_some wr.heap.size w.heap.size i i (w.heap.size + 1) wo.heap.size k k t cx cv (fun p => (fo p % (i : Int)).toNat) _ hL hN hM ht5 (by simp; omega) (fun p hp => ⟨(bw6.cell hFlt).trans (hfj p hp).1, (hfj p hp).2⟩)
          have HC := hide hC
          have HFJ := hide hfj
          have belw : Below w.heap.size w wr := belz.trans (HF.out.bel.mono belz.size)
          clear hC hfj hL hcl hcur hcs
          go_upto_region 27 with (go_at_call 6; refine Calls.mono HC.out ?_; rintro e w' ⟨rfl, hbw⟩)
          have bfin : Below wr.heap.size wr w' := bw6.trans (hbw.mono (by simp))
          have bfw : Below w.heap.size w w' := belw.trans (bfin.mono belw.size)
          clear HC bw6 hbw HE HF HC1
          generalize hval : (fun j => if t < 4 then cx j t else 0) = val
          generalize hfjd : (fun p => (fo p % (i : Int)).toNat) = fj
          have HB := hide (best_law val fj k)
          have hfl : ∀ p, p < k → w'.cell? ⟨wo.heap.size, p, none⟩ = some (.int .i64 (fj p)) ∧ fj p < i := by
            intro p hp
            rw [← hfjd]
            exact ⟨(bfin.cell hFlt).trans (HFJ.out p hp).1, (HFJ.out p hp).2⟩
          have HFL := hide hfl
          clear HFJ hfl hfjd
          by_cases t4 : t < 4
          · have hcl : ∀ j, j < i → w'.cell? ⟨b0, o0 + j * 4 + t, none⟩ = some (.int .u8 (val j)) ∧ 0 ≤ val j ∧ val j ≤ 255 := by
              intro j hj
              have e : val j = cx j t := by rw [← hval]; simp [t4]
              obtain ⟨c1, c2, c3⟩ := HC0.out j t hj t4
              rw [e]
              exact ⟨(bfw.cell hb0).trans c1, c2, c3⟩
            have HCL := hide hcl
            clear hcl hval HC0
            go_wp2
            go_loop [19, 113] (fun wt j => ∃ p : Nat, p ≤ k ∧ j = .int .i64 p ∧ wt = .int .u64 (best val fj p).1) (fun _ j => k - (intOf j).toNat)
            case atStart => exact ⟨0, Nat.zero_le _, rfl, rfl⟩
            case round =>
              obtain ⟨p, hp, rfl, rfl⟩ := hrel
              by_cases hpk : p < k
              · obtain ⟨d0, hfi⟩ := HFL.out p hpk
                obtain ⟨d1, hv0, hv1⟩ := HCL.out (fj p) hfi
                by_cases hu : (best val fj p).1 < val (fj p)
                · have HU := hide (best_up hu)
                  go_wp2
                  go_round
                  case rel => exact ⟨p + 1, by omega, by go_num, by rw [HU.out]⟩
                  case measure => simp [intOf]; omega
                · have HU := hide (best_stay (Int.not_lt.1 hu))
                  go_wp2
                  go_round
                  case rel => exact ⟨p + 1, by omega, by go_num, by rw [HU.out]⟩
                  case measure => simp [intOf]; omega
              · obtain rfl : p = k := by omega
                generalize (best val fj p).1 = W at HB ⊢
                generalize (best val fj p).2 = G at HB ⊢
                by_cases hW : 0 < W
                · go_wp2
                  go_loop [23, 137] (fun wf j => ∃ q : Nat, q ≤ p ∧ j = .int .i64 q ∧ wf = .int .i64 (-1) ∧ ∀ r, r < q → val (fj r) ≠ W) (fun _ j => p - (intOf j).toNat)
                  case atStart => exact ⟨0, Nat.zero_le _, rfl, rfl, fun r hr => absurd hr (Nat.not_lt_zero _)⟩
                  case round =>
                    obtain ⟨q, hq, rfl, rfl, hno⟩ := hrel
                    have HNO := hide hno
                    clear hno
                    by_cases hqp : q < p
                    · obtain ⟨d0, hfi⟩ := HFL.out q hqp
                      obtain ⟨d1, hv0, hv1⟩ := HCL.out (fj q) hfi
                      by_cases he : val (fj q) = W
                      · have hG : G = (fj q : Int) := by
                          obtain ⟨_, _, _, hB⟩ := HB.out
                          obtain ⟨s, hs1, hs2, hs3, hs4⟩ := hB hW
                          have : s = q := by
                            by_cases h1 : s < q
                            · exact absurd hs2 (HNO.out s h1)
                            · by_cases h2 : q < s
                              · exact absurd he (hs3 q h2)
                              · omega
                          rw [hs4, this]
                        have hbe : (val (fj q) == W) = true := by simp [he]
                        clear he
                        have HG := hide hG
                        clear hG
                        go_wp2
                        go_ret
                        exact ⟨ret_tr (by simp [HG.out]), bfw⟩
                      · have hbe : (val (fj q) == W) = false := by simp [he]
                        have HE := hide he
                        clear he
                        go_wp2
                        go_round
                        case rel => exact ⟨q + 1, by omega, by go_num, rfl, fun r hr => if e : r = q then by rw [e]; exact HE.out else HNO.out r (by omega)⟩
                        case measure => simp [intOf]; omega
                    · exfalso
                      obtain ⟨_, _, _, hB⟩ := HB.out
                      obtain ⟨s, hs1, hs2, _⟩ := hB hW
                      exact HNO.out s (by omega) hs2
                · have hW0 : W = 0 := by have := HB.out.1; omega
                  have hG : G = -1 := HB.out.2.2.1 hW0
                  subst hW0
                  subst hG
                  go_wp2
                  go_ret
                  exact ⟨rfl, bfw⟩
          · have hz : ∀ j, val j = 0 := by intro j; rw [← hval]; simp [t4]
            obtain ⟨hb0', hb1', hb2', hb3'⟩ := HB.out
            have hW0 : (best val fj k).1 = 0 := by
              by_cases h : 0 < (best val fj k).1
              · obtain ⟨s, _, hs2, _⟩ := hb3' h
                rw [hz] at hs2
                omega
              · omega
            have hG := hb2' hW0
            clear hb0' hb1' hb2' hb3' hz hval
            rw [hW0, hG]
            clear hW0 hG
            go_wp2
            go_ret
            exact ⟨rfl, bfw⟩
end Go.Proofs.Ybulkdzw
