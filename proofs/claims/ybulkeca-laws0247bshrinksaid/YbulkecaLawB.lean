import Derived.Test.YbulkecaEq
import Derived.Deep.DeepCutAuto
set_option linter.unusedVariables false
namespace Go.Proofs.Ybulkeca
open Go.RowKit

theorem mkChan73 (w : World) : (Instr.makeChan 73 (.int .i64 0)).run Yba.prog w = .ok (.chan (some w.heap.size)) (w.alloc (.chan 0 #[] false 0 0 false)) := by kernel_rfl

theorem mk_cell {w1 w2 : World} {ob : Obj} {b o : Nat} {v : Value} (h : Hid (w2 = w1.alloc ob)) (hc : w1.cell? ⟨b, o, none⟩ = some v) : w2.cell? ⟨b, o, none⟩ = some v := by
  rw [show w2 = _ from h.out]
  exact (World.cell?_of_block (a := ⟨b, o, none⟩) (heap_lt ob (World.block_lt_of_cell? _ _ hc))).trans hc
theorem mk_frz {w1 w2 : World} {ob : Obj} {b o : Nat} {x : Bool} (h : Hid (w2 = w1.alloc ob)) (hb : b < w1.heap.size) (hc : w1.frozen? ⟨b, o, none⟩ = x) : w2.frozen? ⟨b, o, none⟩ = x := by
  rw [show w2 = _ from h.out]
  exact (World.frozen?_of_block (a := ⟨b, o, none⟩) (heap_lt ob hb)).trans hc

theorem bd_idle2 {k : Nat → Nat} {H N p sh og b0 i : Nat} {w wr wA wB wC wD wE : World} {v' : Value} (D : Ds H p sh og b0) (S : Bd k H N p sh og b0 w wr i) (hi : i < N) {vi : Value} (hA : wA = wr.setCell ⟨sh, i * 68, none⟩ vi) {o1 : Obj} (hB : wB = wA.alloc o1) (K : Wk k b0 i wB wC (k i))
    {vo : Value} (hD : wD = wC.setCell ⟨og, i, none⟩ vo) (hE : AppNil (ptrs k b0 i) (k i) wD v' wE) : wE.cell? ⟨sh, i * 68 + 3, none⟩ = some (.slice none 0 0) ∧ wE.frozen? ⟨sh, i * 68 + 3, none⟩ = false ∧ ∃ oa n cc, v' = .slice oa n cc := by
  have I := bd_idle D S hi hA hB K hD hE
  have lo := Bd.lo D k i
  obtain ⟨d1, d2, d3, d4⟩ := D
  have e := I.1 sh (by omega) (by omega)
  refine ⟨?_, ?_, ?_⟩
  · rw [World.cell?_of_block (a := ⟨sh, i * 68 + 3, none⟩) e, hA]
    exact cell_setCell (S.id0 i (Nat.le_refl _) hi) (by omega)
  · rw [World.frozen?_of_block (a := ⟨sh, i * 68 + 3, none⟩) e, hA, World.frozen?_setCell]
    exact S.sfz _
  · rcases hE with ⟨_, e, _⟩ | ⟨_, cc, L, e, _⟩
    · exact ⟨_, _, _, e⟩
    · exact ⟨_, _, _, e⟩

set_option maxHeartbeats 4000000 in
set_option maxRecDepth 100000 in
theorem lawB_walk (a0 : Option Addr) (N c0 r : Nat) (zf : Nat → Int) (cp rv : Int) (w : World) (hrv : rv = (r : Int)) (hN : N ≤ 1024) (hr : r < 256) (hcp1 : -32768 ≤ cp) (hcp2 : cp ≤ 32767)
    (ha : ∀ i, i < N → ∃ x, a0 = some x ∧ x.block < w.heap.size ∧ w.cell? (x.add i) = some (.int .u8 (zf i)) ∧ 0 ≤ zf i ∧ zf i ≤ 255) :
    Calls Yba.prog 3 #[.slice a0 N c0, .int .u8 rv, .int .i16 cp] w fun e w' => e = .returned (.bool true) ∧ Below w.heap.size w w' := by
  obtain ⟨i71, z71, hi, hz, hsz, hby, z0, z1, z2, z3⟩ := parts71
  obtain ⟨i69, hi9, hz9, hsz9, hby9⟩ := info_parts info69
  obtain ⟨i72, hi2, hz2, hsz2, hby2⟩ := info_parts info72
  obtain ⟨k, hk⟩ : ∃ k : Nat → Nat, ∀ i, k i = (zf i % 16).toNat := ⟨fun i => (zf i % 16).toNat, fun _ => rfl⟩
  have k15 : ∀ i, k i ≤ 15 := fun i => by rw [hk]; omega
  obtain ⟨H, hH⟩ : ∃ H, H = w.heap.size := ⟨_, rfl⟩
  obtain ⟨p, sh, og, b0, hD⟩ : ∃ p sh og b0, Ds H p sh og b0 := ⟨_, _, _, _, ⟨rfl, rfl, rfl, rfl⟩⟩
  have HD := hide hD
  have hp : w.heap.size = p := by rw [hD.a, hH]
  have HA := hide ha
  have HK := hide hk
  have H15 := hide k15
  have HZ := hide (show z71.cells.size = 68 ∧ z71.cells[0]! = .int .i64 0 ∧ z71.cells[1]! = .int .i32 0 ∧ z71.cells[3]! = .slice none 0 0 from ⟨z0, z1, z2, z3⟩)
  have HH := hide hH
  have HRV := hide hrv
  have hrv0 : 0 ≤ rv ∧ rv < 256 := by omega
  clear hrv z0 z1 z2 z3 ha hk k15 hD
  rw [← hH]
  clear hH
  go_enter Yba.func3, Yba.ntmps3
  go_upto_region 4 with fail
  obtain ⟨w1, hw1⟩ : ∃ w1, w1 = w.alloc (.cells Yba.zeroCells66 66) := ⟨_, rfl⟩
  rw [← hw1]
  have s1 : w1.heap.size = sh := by rw [hw1]; simp [← HH.out, HD.out.b]
  have c1 : w1.cell? ⟨p, 7, none⟩ = some (.slice none 0 0) := by
    have h := heap_at w (.cells Yba.zeroCells66 66)
    rw [hp, ← hw1] at h
    simp only [World.cell?, h]
    exact (Prod.mk.inj (Prod.mk.inj zero66).2).1
  have f1 : w1.frozen? ⟨p, 7, none⟩ = false := by
    have h := heap_at w (.cells Yba.zeroCells66 66)
    rw [hp, ← hw1] at h
    simp [World.frozen?, h]
  have plt : p < w1.heap.size := by rw [s1, HD.out.a, HD.out.b]; omega
  have HW1 := hide hw1
  clear hw1
  go_upto_region 5 with (at_make; refine wpList_make_at rfl _ _ 35 rfl 71 i71 z71 Yba.underlying35 hi hz _ _ _ _ N N rfl rfl rfl rfl (Nat.le_refl _) (by rw [hby]; omega) (by omega) ?_; intro w2 hw2; have c2 := mk_cell hw2 c1; have f2 := mk_frz hw2 plt f1)
  have s2 : w2.heap.size = og := by
    rw [show w2 = _ from hw2]; simp [s1, HD.out.b, HD.out.c]
  obtain ⟨w3, hw3⟩ : ∃ w3, w3 = w2.setCell ⟨p, 7, none⟩ (.slice (some ⟨sh, 0, none⟩) N N) := ⟨_, rfl⟩
  have s3 : w3.heap.size = og := by rw [hw3, (Only.setCell p 7 w2 _).size, s2]
  rw [← hw3]
  have HW3 := hide hw3
  clear hw3 c1 f1 c2 f2 s2 plt
  go_upto_region 6 with (at_make; refine wpList_make_at rfl _ _ 67 rfl 69 i69 (.slice none 0 0) Yba.underlying67 hi9 hz9 _ _ _ _ N N rfl rfl rfl rfl (Nat.le_refl _) (by rw [hby9]; omega) (by omega) ?_; intro w4 hw4)
  have HB := hide (bd_start (k := k) HD.out HH.out.symm HZ.out.1 HZ.out.2.1 HZ.out.2.2.1 HZ.out.2.2.2 HW1.out (show N * i71.size = N * 68 by rw [hsz]) hw2.out HW3.out (show N * i69.size = N * 1 by rw [hsz9]) hw4.out)
  clear HW1 hw2 HW3 hw4 s1 s3
  go_wp2
  go_loopw [9, 38] (fun tv iv wr => ∃ i : Nat, i ≤ N ∧ tv = .int .i64 (Sk k i : Int) ∧ iv = .int .i64 i ∧ Bd k H N p sh og b0 w wr i) (fun _ iv _ => N - (intOf iv).toNat)
  case atStart => exact ⟨0, Nat.zero_le _, rfl, rfl, HB.out⟩
  case round =>
    clear HB
    obtain ⟨i, hiN, rfl, rfl, hS⟩ := hrel
    by_cases hlt : i < N
    · obtain ⟨x, rfl, hxb, hxc, hx0, hx1⟩ := HA.out i hlt
      have y0 : wr.cell? (x.add i) = some (.int .u8 (zf i)) := (hS.bel.cell (p := x.add i) (by rw [HH.out]; simp only [Addr.add]; split <;> exact hxb)).trans hxc
      have y7 := hS.c7
      obtain ⟨vi, y1⟩ := hS.ix i hlt
      have f1 := hS.sfz (i * 68)
      have sz := hS.size
      have hk15 := H15.out i
      have hkz : zf i % 16 = (k i : Int) := by rw [HK.out i]; omega
      have HS := hide hS
      clear hS hxc
      go_upto_region 13 with fail
      obtain ⟨wA, hA⟩ : ∃ wA, wA = wr.setCell ⟨sh, i * 68, none⟩ (.int .i64 i) := ⟨_, rfl⟩
      rw [← hA]
      have sA : wA.heap.size = Bs k b0 i := by rw [hA, (Only.setCell sh _ wr _).size, sz]
      have HAA := hide hA
      clear hA y0 y7 y1 f1 sz hkz
      go_upto_region 14 with (at_make; refine wpList_make_at rfl _ _ 69 rfl 72 i72 (.pointer none) Yba.underlying69 hi2 hz2 _ _ _ _ 0 (k i) rfl rfl rfl rfl (Nat.zero_le _) (by rw [hby2]; omega) (by omega) ?_; intro wB hB)
      have HW := hide (show Wk k b0 i wB wB 0 by rw [hB.out]; exact wk_start sA (by rw [hsz2]))
      go_wp2
      go_loopw [13, 14] (fun ws jv wq => ∃ j : Nat, j ≤ k i ∧ ws = .slice (some ⟨Bs k b0 i, 0, none⟩) j (k i) ∧ jv = .int .i64 j ∧ Wk k b0 i wB wq j) (fun _ jv _ => k i - (intOf jv).toNat)
      case atStart => exact ⟨0, Nat.zero_le _, rfl, rfl, HW.out⟩
      case round =>
        clear HW
        obtain ⟨j, hj, rfl, rfl, hW⟩ := hrel
        by_cases hjk : j < k i
        · obtain ⟨cur, hcur, hcl, _⟩ := hW.row
          have szq := hW.size
          have HWK := hide (fun W h => wk_round (W := W) (sh := sh) hW hjk hcur #[.pointer (some ⟨sh, i * 68, none⟩), .chan (some (ch k b0 i j)), .int .u64 0, .int .i64 0, .pointer none, .pointer none] rfl h)
          clear hW
          have hmk := mkChan73
          go_upto_region 16 with (at_builtin; refine wpList_append_room_at rfl _ _ rfl (Bs k b0 i) j (k i) rfl _ _ (wp k b0 i j) rfl ?_ rfl cur ?_ hcl hjk ?_)
          case refine_1 =>
            obtain ⟨wq, hwq⟩ : ∃ wq, wq = (wr.alloc (.chan 0 #[] false 0 0 false)).alloc (.cells #[.pointer (some ⟨sh, i * 68, none⟩), .chan (some (Bs k b0 i + 1 + 3 * j)), .int .u64 0, .int .i64 0, .pointer none, .pointer none] 79) := ⟨_, rfl⟩
            have hs : wq.heap.size = Bs k b0 i + 1 + 3 * j + 1 + 1 := by rw [hwq]; simp [szq]
            rw [← hwq, ← hs]
            have h := heap_at wq (.cells #[.pointer (some ⟨Bs k b0 i + 1 + 3 * j + 1, 0, none⟩)] 72)
            simp only [World.cell?, h]
            rfl
          case refine_2 =>
            rw [heap_lt _ (by simp [szq]; omega), heap_lt _ (by simp [szq]; omega), heap_lt _ (by omega)]
            exact hcur
          intro W hW2
          have HWN := hide (HWK.out W hW2.out)
          clear hW2 HWK hcur
          go_wp2
          go_roundw
          case rel => exact ⟨j + 1, by omega, rfl, by go_num, HWN.out⟩
          case measure => simp [intOf]; omega
        · obtain rfl : j = k i := by omega
          obtain ⟨⟨vo, g1⟩, g2, g3⟩ := bd_mid HD.out HS.out hlt HAA.out hB.out hW
          obtain ⟨wD, hwD⟩ : ∃ wD, wD = wr.setCell ⟨og, i, none⟩ (.slice (some ⟨Bs k b0 i, 0, none⟩) (k i) (k i)) := ⟨_, rfl⟩
          have HP := hide (bd_ptrs HD.out hW hwD)
          have HI2 := hide (fun v' wE hE => bd_idle2 (v' := v') (wE := wE) HD.out HS.out hlt HAA.out hB.out hW hwD hE)
          have HRD := hide (fun v' wE wF hE hF => bd_round (v' := v') (wE := wE) (wF := wF) HD.out HS.out hlt HAA.out hB.out hW hwD hE hF)
          clear hW
          go_upto_region 19 with fail
          rw [← hwD]
          clear hwD g1 g2 g3
          go_upto_region 20 with (at_builtin; refine wpList_append_nil_at rfl _ _ rfl rfl ⟨Bs k b0 i, 0, none⟩ (k i) (k i) (ptrs k b0 i) rfl (ptrs_length k b0 i) HP.out (by omega) ?_; intro v' wE hE; obtain ⟨e1, e2, oa, n', cc, rfl⟩ := HI2.out v' wE hE.out)
          obtain ⟨wF, hF⟩ : ∃ wF, wF = wE.setCell ⟨sh, i * 68 + 3, none⟩ (.slice oa n' cc) := ⟨_, rfl⟩
          rw [← hF]
          have HBN := hide (HRD.out (.slice oa n' cc) wE wF hE.out hF)
          clear hE hF e1 e2 HI2 HRD
          have sk1 := Sk_small k H15.out i
          go_wp2
          go_roundw
          case rel => exact ⟨i + 1, by omega, by simp [Sk], by go_num, HBN.out⟩
          case measure => simp [intOf]; omega
    · obtain rfl : i = N := by omega
      obtain ⟨s0, hs0⟩ : ∃ s0 : Int, s0 = r + Sk k i - cp := ⟨_, rfl⟩
      obtain ⟨w1, hw1⟩ : ∃ w1, w1 = wr.setCell ⟨p, 0, none⟩ (.int .i64 cp) := ⟨_, rfl⟩
      obtain ⟨w2, hw2⟩ : ∃ w2, w2 = w1.setCell ⟨p, 76, none⟩ (.int .i64 ((Sk k i : Int) * 4294967296 + r)) := ⟨_, rfl⟩
      obtain ⟨e76, f76, c, hcall⟩ := bd_done HD.out hS H15.out hN hr hcp1 hcp2 hs0 hw1 hw2
      have KA := named2 (store64_at p 0 0 cp wr hS.c0 (hS.pfz 0)) hw1
      have KB := named2 (store64_at p 76 0 ((Sk k i : Int) * 4294967296 + r) w1 e76 f76) hw2
      have KS := hide hcall
      have Ds1 := Sk_small k H15.out i
      have HS0 := hide hs0
      have hor := or_at (Sk k i) r (by omega) (by omega)
      have hwr := hwr_at r hr
      obtain ⟨V, hV⟩ : ∃ V : Int, V = (Sk k i : Int) * 4294967296 + r := ⟨_, rfl⟩
      obtain ⟨Dv, hDv⟩ : ∃ Dv : Int, Dv = (Sk k i : Int) := ⟨_, rfl⟩
      rw [← hV] at hor KB
      rw [← hDv] at hor ⊢
      rw [← HRV.out] at hor hwr
      have HDV := hide (show 0 ≤ Dv ∧ Dv ≤ 15360 ∧ Dv = (Sk k i : Int) by omega)
      have hdv0 : 0 ≤ Dv ∧ Dv ≤ 15360 := by omega
      have HV := hide hV
      clear hcall hw1 hw2 hS e76 f76 hs0 hV hDv Ds1
      go_upto_region 23 with (go_at_call 5; refine Calls.mono KA.out ?_; rintro e w' ⟨rfl, rfl⟩)
      go_upto_region 24 with (go_at_call 5; refine Calls.mono KB.out ?_; rintro e w' ⟨rfl, rfl⟩)
      go_upto_region 25 with (go_at_call 6; refine Calls.mono KS.out ?_; rintro e wF ⟨rfl, hBF, hC⟩)
      have hsur : rv + Dv - cp = s0 := by have := HS0.out; have := HRV.out; have := HDV.out; omega
      have HBF := hide hBF
      have HC := hide hC
      have hs1 : (-32768 : Int) ≤ s0 ∧ s0 ≤ 50000 := by omega
      clear hBF hC hor hwr KA KB KS
      go_wp2
      go_loopw [15, 16, 111] (fun sv tv xv wq => ∃ t : Nat, t ≤ i ∧ sv = .int .i64 (s0 - Tk k s0 t) ∧ tv = .int .i64 (Tk k s0 t : Int) ∧ xv = .int .i64 t ∧ Below wF.heap.size wF wq) (fun _ _ xv _ => i - (intOf xv).toNat)
      case atStart => exact ⟨0, Nat.zero_le _, by simp [Tk], rfl, rfl, Below.refl _ _⟩
      case round =>
        obtain ⟨t, hti, rfl, rfl, rfl, hBel⟩ := hrel
        have C := HC.out.below hBel
        have Tb := Tk_le k s0 t
        have Ts := Sk_small k H15.out t
        by_cases hlt2 : t < i
        · obtain ⟨s, hs⟩ : ∃ s, s = s0 - Tk k s0 t := ⟨_, rfl⟩
          obtain ⟨n, hn⟩ : ∃ n, n = nk k s0 t := ⟨_, rfl⟩
          obtain ⟨q, hq⟩ : ∃ q, q = k t := ⟨_, rfl⟩
          obtain ⟨T, hT⟩ : ∃ T, T = Tk k s0 t := ⟨_, rfl⟩
          have hq15 := H15.out t
          have hnk := nk_int k s0 t
          have hnq := nk_le k s0 t
          have a1 := C.og1 t hlt2
          have a7 := C.c7
          have a3 := C.idl t hlt2
          rw [← hq, ← hn] at a3
          rw [← hq] at a1 hq15 hnq
          rw [← hs, ← hn, ← hq] at hnk
          rw [← hn] at hnq
          rw [← hs, ← hT]
          obtain ⟨d, hd⟩ : ∃ d, d + n = q := ⟨q - n, by omega⟩
          rw [show q - n = d by omega] at a3
          have hsb : (-100000 : Int) ≤ s ∧ s ≤ 100000 := by omega
          have hTb : T ≤ 15360 := by omega
          have HCC := hide C
          have HBL := hide hBel
          have HEQ := hide (show s = s0 - Tk k s0 t ∧ n = nk k s0 t ∧ q = k t ∧ T = Tk k s0 t from ⟨hs, hn, hq, hT⟩)
          have HNK := hide hnk
          clear C hBel Tb Ts hs hn hq hT hnk
          obtain ⟨m1, hm1⟩ : ∃ m1 : Int, m1 = max s 0 := ⟨_, rfl⟩
          go_upto_if 120 with fail
          go_cut [19] (fun v wc => v = .int .i64 m1 ∧ wr = wc)
          case first =>
            by_cases h0 : s < 0
            · go_wp2
              go_meet
              case rel => exact ⟨by congr 1; omega, rfl⟩
            · go_wp2
              go_meet
              case rel => exact ⟨by congr 1; omega, rfl⟩
          case rest =>
            obtain ⟨rfl, rfl⟩ := hcut
            have hm2 : (n : Int) = min m1 q := by have := HNK.out; omega
            have hm3 : 0 ≤ m1 ∧ m1 ≤ 100000 := by omega
            clear hm1
            go_upto_if 124 with fail
            go_cut [19] (fun v wc => v = .int .i64 (n : Int) ∧ wr = wc)
            case first =>
              by_cases h0 : (q : Int) < m1
              · go_wp2
                go_meet
                case rel => exact ⟨by congr 1; omega, rfl⟩
              · go_wp2
                go_meet
                case rel => exact ⟨by congr 1; omega, rfl⟩
            case rest =>
              obtain ⟨rfl, rfl⟩ := hcut
              clear hm2 hm3
              have hne : (q : Int) - (n : Int) = (d : Int) := by omega
              go_upto_region 39 with fail
              go_wp2
              go_loopw [21] (fun jv wq => ∃ j : Nat, j ≤ q ∧ jv = .int .i64 j ∧ Below wF.heap.size wF wq) (fun jv _ => q - (intOf jv).toNat)
              case atStart => exact ⟨0, Nat.zero_le _, rfl, HBL.out⟩
              case round =>
                clear HBL HCC a1 a7 a3
                obtain ⟨j, hjq, rfl, hB2⟩ := hrel
                by_cases hjlt : j < q
                · obtain ⟨e1, e2, e3, e4⟩ := HEQ.out
                  have C := HC.out.below hB2
                  obtain ⟨cj, hcj⟩ : ∃ cj, cj = ch k b0 t j := ⟨_, rfl⟩
                  have b1 := C.ob t j hlt2 (by omega)
                  have b2 := C.tk t j hlt2 (by omega)
                  have b3 := C.op t j hlt2 (by omega)
                  have b4 := C.row t j hlt2
                  simp only [wp] at b1 b4
                  rw [← hcj] at b1 b2 b3 b4
                  rw [← e2] at b3 b4
                  have HB2 := hide hB2
                  by_cases hjn : j < n
                  · rw [if_pos hjn] at b3
                    have KY := hide (closed_yes cj 0 0 0 false wr b3)
                    clear C b3 b4 hB2 e1 e2 e3 e4 hcj
                    go_wp2_with (go_at_call 7; refine Calls.mono KY.out ?_; rintro e wy ⟨rfl, hBy⟩)
                    go_roundw
                    case rel => exact ⟨j + 1, by omega, by go_num, HB2.out.trans (hBy.mono HB2.out.size)⟩
                    case measure => simp [intOf]; omega
                  · rw [if_neg hjn] at b3
                    have b5 := b4 (by omega) (by omega)
                    obtain ⟨e, he⟩ : ∃ e, e + n = j := ⟨j - n, by omega⟩
                    rw [show j - n = e by omega] at b5
                    have hoi : oi k b0 t = some ⟨ib k b0 t, 0, none⟩ := if_neg (by omega)
                    rw [hoi]
                    have he2 : (j : Int) - (n : Int) = (e : Int) := by omega
                    have he3 : e < d := by omega
                    have KN := hide (closed_no cj 0 0 0 false wr.drew b3)
                    have HB3 := hide (HB2.out.drew)
                    clear C b3 b4 hB2 e1 e2 e3 e4 hcj hoi
                    have hne72 := neq72
                    go_upto_region 45 with fail
                    go_region
                    all_goals
                      go_wp2_with (go_at_call 7; refine Calls.mono KN.out ?_; rintro e' wy ⟨rfl, rfl⟩)
                      go_roundw
                      case rel => exact ⟨j + 1, by omega, by go_num, HB3.out⟩
                      case measure => simp [intOf]; omega
                · obtain rfl : j = q := by omega
                  have HB2 := hide hB2
                  clear hB2
                  go_wp2
                  go_roundw
                  case rel =>
                    obtain ⟨e1, e2, e3, e4⟩ := HEQ.out
                    exact ⟨t + 1, by omega, by rw [Tk_succ, ← e4, ← e2]; congr 1; omega, by rw [Tk_succ, ← e4, ← e2]; congr 1, by go_num, HB2.out⟩
                  case measure => simp [intOf]; omega
        · obtain rfl : t = i := by omega
          obtain ⟨Dn, hDn⟩ : ∃ Dn, Dn = Sk k t - Tk k s0 t := ⟨_, rfl⟩
          obtain ⟨T, hT⟩ : ∃ T, T = Tk k s0 t := ⟨_, rfl⟩
          have b1 := C.c76
          rw [← hDn] at b1
          have KI := hide (idle_at p r Dn (by omega) (by omega) wr b1)
          have KR := hide (running_at p r Dn (by omega) (by omega) wr b1)
          have KC := hide (cap_at p cp wr C.c0)
          rw [← HRV.out] at KR
          have hDT : Dv - (T : Int) = (Dn : Int) := by have := HDV.out; omega
          have hTb : T ≤ 15360 := by omega
          have HBL := hide hBel
          rw [← hT]
          clear C b1 hBel Tb Ts hDn hT
          go_wp2_with (first
            | (go_at_call 8; refine Calls.mono KI.out ?_; rintro e w' ⟨rfl, rfl⟩)
            | (go_at_call 9; refine Calls.mono KR.out ?_; rintro e w' ⟨rfl, rfl⟩)
            | (go_at_call 10; refine Calls.mono KC.out ?_; rintro e w' ⟨rfl, rfl⟩))
          go_ret
          refine ⟨rfl, HBF.out.trans (HBL.out.mono ?_)⟩
          rw [HH.out]
          exact HBF.out.size
end Go.Proofs.Ybulkeca
