import Derived.Test.YbulkecaSt
set_option linter.unusedVariables false
namespace Go.Proofs.Ybulkeca
open Go.RowKit

theorem Yba.info3 : (Yba.prog.info? 3).map (fun i => (i.zero, i.size, i.bytes)) = some (some (.int .i64 0), 1, 8) := by kernel_rfl

theorem inBlock_then (n : Nat) (K : Act → World → Prop) (R : Exit → Act → World → Prop) : Exit.inBlock n (Exit.then K R) = Exit.then K (Exit.inBlock n (Exit.then K R)) := by
  funext e a w
  cases e <;> rfl

/-- The law's state with the step that is at hand. -/
def Sx (w wr : World) (Q size h : Nat) (fl : List Int) (res : Nat) (fv : Value) (sb : Nat) (x : Int) : Prop :=
  ∃ S, Inv wr Q size h fl res S ∧ wr.ownsRow w.heap.size 3 1 fv fl.length (fl.map (Value.int .i64)) ∧ (∀ i, i ∈ S → some i ≠ fv.ownBlock) ∧ (∀ i, i ∈ S → w.heap.size ≤ i) ∧ Below w.heap.size w wr ∧ sb ∉ S ∧ wr.cell? ⟨sb, 1, none⟩ = some (.int .i64 x)

theorem Sx.st {w wr : World} {Q size h : Nat} {fl : List Int} {res : Nat} {fv : Value} {sb : Nat} {x : Int} (H : Sx w wr Q size h fl res fv sb x) : St w wr Q size h fl res fv := by
  obtain ⟨S, a, b, c, d, e, _⟩ := H
  exact ⟨S, a, b, c, d, e⟩

theorem St.with {w wr : World} {Q size h : Nat} {fl : List Int} {res : Nat} {fv : Value} (H : St w wr Q size h fl res fv) (o : Value) (x : Int) : Sx w (wr.alloc (.cells #[o, .int .i64 x] 89)) Q size h fl res fv wr.heap.size x := by
  obtain ⟨S, hi, ho, hd, hl, hb⟩ := H
  have hT : Touch S wr (wr.alloc (.cells #[o, .int .i64 x] 89)) := (Touch.refl _ _).alloc _
  obtain ⟨a, b, c, d⟩ := st_touch (h' := 0) (res' := 0) ho hd hl hb hT (fun i hi => .inl hi)
  exact ⟨S, hi.of_blocks (fun i hm => Below.heap_alloc _ _ _ (hi.lt i hm)), a, b, c, d, fun hm => Nat.lt_irrefl _ (hi.lt _ hm), by simp⟩

theorem sx_reserve {w wr : World} {Q size h : Nat} {fl : List Int} {fv : Value} {sb : Nat} {x : Int} (H : Sx w wr Q size h fl fl.length fv sb x) :
    Calls Yba.prog 13 #[.pointer (some ⟨Q, 0, none⟩)] wr fun e w' => ∃ r, e = .returned (.bool r) ∧ ((r = true ∧ fl.length < h + size ∧ Sx w w' Q size h fl (fl.length + 1) fv sb x) ∨ (r = false ∧ h + size ≤ fl.length ∧ St w w' Q size h fl fl.length fv)) := by
  obtain ⟨S, hi, ho, hd, hl, hb, hsb, hx⟩ := H
  refine (reserve_inv hi).mono ?_
  rintro e w' ⟨hT, ⟨h1, rfl, h2⟩ | ⟨h1, rfl, h2⟩⟩
  · obtain ⟨a, b, c, d⟩ := st_touch (h' := 0) (res' := 0) ho hd hl hb hT (fun i hi => .inl hi)
    exact ⟨true, rfl, .inl ⟨rfl, h1, S, h2, a, b, c, d, hsb, hT.cell hx hsb⟩⟩
  · exact ⟨false, rfl, .inr ⟨rfl, h1, S, h2, st_touch (h' := 0) (res' := 0) ho hd hl hb hT (fun i hi => .inl hi)⟩⟩

theorem sx_push (PG : GrowSaid) {w wr : World} {Q size h : Nat} {fl : List Int} {fv : Value} {sb : Nat} {x : Int} (H : Sx w wr Q size h fl (fl.length + 1) fv sb x) (hlt : fl.length < h + size) (hbd : fl.length < 4294967296) :
    Calls Yba.prog 14 #[.pointer (some ⟨Q, 0, none⟩), .int .i64 x] wr fun e w' => e = .returned (.tuple #[]) ∧ Sp w w' Q size h fl x fv ∧ w'.cell? ⟨sb, 1, none⟩ = some (.int .i64 x) := by
  obtain ⟨S, hi, ho, hd, hl, hb, hsb, hx⟩ := H
  refine (push_inv PG x hi hlt hbd).mono ?_
  rintro e w' ⟨rfl, hT, S', h2, hS⟩
  exact ⟨rfl, ⟨S', h2, st_touch (h' := 0) (res' := 0) ho hd hl hb hT hS⟩, hT.cell hx hsb⟩

theorem St.getAt {w wr : World} {Q size h : Nat} {fl : List Int} {res : Nat} {oa : Option Addr} {cap : Nat} (H : St w wr Q size h fl res (.slice oa fl.length cap)) {j : Nat} (hj : j < fl.length) : ∃ g, oa = some ⟨g, 0, none⟩ ∧ wr.cell? ⟨g, j, none⟩ = some (.int .i64 (fl.getD j 0)) := by
  obtain ⟨S, _, ho, _⟩ := H
  rcases ho.2 with ⟨_, h0⟩ | ⟨g, cap, cur, hv, _, hh, _, _, _, ht⟩
  · omega
  · injection hv with hv1 _ _
    refine ⟨g, hv1, ?_⟩
    have e : (cur.toList.take (fl.length * 1))[j]? = (fl.map (Value.int .i64))[j]? := by rw [ht]
    rw [List.getElem?_take, if_pos (by omega)] at e
    simp only [World.cell?, hh]
    simp only [List.getElem?_map, List.getD] at e ⊢
    rw [List.getElem?_eq_getElem hj] at e ⊢
    simpa using e

set_option maxRecDepth 100000 in
set_option maxHeartbeats 4000000 in
theorem script_walk (PG : GrowSaid) (n : Int) (a1 : Option Addr) (N c1 : Nat) (w : World) (b0 o0 : Nat) (op ar : Nat → Int) (hN : N ≤ 1024) (hn0 : 0 ≤ n) (hn1 : n ≤ 255)
    (ha : 0 < N → a1 = some ⟨b0, o0, none⟩ ∧ b0 < w.heap.size)
    (hc : ∀ i, i < N → w.cell? ⟨b0, o0 + i * 2, none⟩ = some (.int .u8 (op i)) ∧ w.cell? ⟨b0, o0 + i * 2 + 1, none⟩ = some (.int .i64 (ar i)) ∧ 0 ≤ op i ∧ op i ≤ 255) :
    Calls Yba.prog 4 #[.int .u8 n, .slice a1 N c1] w fun e w' => e = .returned (.bool true) ∧ Below w.heap.size w w' := by
  obtain ⟨size, hsz⟩ : ∃ size : Nat, n % 100 = (size : Int) := ⟨(n % 100).toNat, by omega⟩
  have hs99 : size ≤ 99 := by omega
  have HA := hide ha
  have HCC := hide hc
  have HPG := hide PG
  have HNQ := hide (new_inv size hs99 w)
  clear ha hc PG
  go_enter Yba.func4, Yba.ntmps4
  go_upto_region 7 with (go_at_call 11; refine Calls.mono HNQ.out ?_; rintro e w1 ⟨Q, S, rfl, hi, hl, hT⟩)
  have hst : St w w1 Q size 0 [] 0 (.slice none 0 0) := st_start hi hl hT
  have HST := hide hst
  clear hi hl hT hst
  go_upto_region 9 with (go_at_call 12; refine Calls.mono (st_len HST.out (Nat.le_refl _) (by omega)) ?_; rintro e w' ⟨rfl, rfl⟩)
  go_wp2
  go_loopw [7, 8, 30] (fun fv hv iv wr => ∃ i h : Nat, ∃ fl : List Int, i ≤ N ∧ iv = .int .i64 i ∧ hv = .int .i64 h ∧ fl.length ≤ i ∧ fl.length ≤ h + size ∧ St w wr Q size h fl fl.length fv) (fun _ _ iv _ => N - (intOf iv).toNat)
  case atStart => exact ⟨0, 0, [], Nat.zero_le _, rfl, rfl, Nat.le_refl _, by simp, HST.out⟩
  case round =>
    clear HST HNQ
    obtain ⟨i, h, fl, hiN, rfl, rfl, hfi, hfs, hS⟩ := hrel
    obtain ⟨hb1, hb2, _, hbel⟩ := hS.bounds
    by_cases hlt : i < N
    · obtain ⟨x0, x1, x2, x3⟩ := HCC.out i hlt
      obtain ⟨rfl, hb0⟩ := HA.out (by omega)
      have y0 : wr.cell? ⟨b0, o0 + i * 2, none⟩ = some (.int .u8 (op i)) := (hbel.cell (p := ⟨b0, _, none⟩) hb0).trans x0
      have y1 : wr.cell? ⟨b0, o0 + i * 2 + 1, none⟩ = some (.int .i64 (ar i)) := (hbel.cell (p := ⟨b0, _, none⟩) hb0).trans x1
      obtain ⟨oa, cap, hfv⟩ := hS.shape
      subst hfv
      have HS := hide hS
      clear hS hbel x0 x1
      generalize op i = o at y0 x2 x3
      generalize ar i = x at y1
      go_upto_if 53 with fail
      have HSX := hide (HS.out.with (.int .u8 o) x)
      have HX1 : Hid _ := hide (show (wr.alloc (.cells #[.int .u8 o, .int .i64 x] 89)).cell? ⟨wr.heap.size, 1, none⟩ = some (.int .i64 x) by simp)
      obtain ⟨W, hW⟩ : ∃ W, W = wr.alloc (.cells #[.int .u8 o, .int .i64 x] 89) := ⟨_, rfl⟩
      rw [← hW] at HSX HX1 ⊢
      obtain ⟨sb, hsb⟩ : ∃ sb, sb = wr.heap.size := ⟨_, rfl⟩
      rw [← hsb] at HSX HX1 ⊢
      clear hW hsb HS y0 y1
      obtain ⟨i3, hi3, hz3, hs3, hby3⟩ := info_parts Yba.info3
      have ho4 : o % 4 = 0 ∨ o % 4 = 1 ∨ o % 4 = 2 ∨ o % 4 = 3 := by omega
      obtain ⟨rr, hrr⟩ : ∃ rr, rr = o % 4 := ⟨_, rfl⟩
      rw [← hrr] at ho4 ⊢
      clear hrr
      obtain ⟨bb, hbb⟩ : ∃ bb : Bool, bb = (rr == 0) := ⟨_, rfl⟩
      rw [← hbb]
      rw [inBlock_then 2]
      go_cut [7, 8] (fun fv hv wc => ∃ h' : Nat, ∃ fl' : List Int, hv = .int .i64 h' ∧ fl'.length ≤ i + 1 ∧ fl'.length ≤ h' + size ∧ St w wc Q size h' fl' fl'.length fv)
      case first =>
        have mod0 : 0 ≤ (fl.length : Int) - (h : Int) := by omega
        rcases ho4 with h4 | h4 | h4 | h4
        · obtain rfl : bb = true := by rw [hbb]; simp [h4]
          clear hbb
          clear h4
          have x1 := HX1.out
          go_upto_region 21 with (go_at_call 13; refine Calls.mono (sx_reserve HSX.out) ?_; rintro e w2 ⟨r, rfl, hr⟩)
          clear x1
          rcases hr with ⟨rfl, hy, hS2⟩ | ⟨rfl, hy, hS2⟩
          · have hm : decide ((fl.length : Int) - (h : Int) < (size : Int)) = true := by simp; omega
            have x2c : w2.cell? ⟨sb, 1, none⟩ = some (.int .i64 x) := by obtain ⟨_, _, _, _, _, _, _, hx⟩ := hS2; exact hx
            have HPU := hide (sx_push HPG.out hS2 hy (by omega))
            clear hS2
            go_upto_region 25 with (go_at_call 14; refine Calls.mono HPU.out ?_; rintro e w3 ⟨rfl, hSp, hx3⟩)
            obtain ⟨S3, hS3⟩ := hSp
            have hown := hS3.2.1
            have hbz := hS3.2.2.2.2.size
            have HSP := hide (show Sp w w3 Q size h fl x (.slice oa fl.length cap) from ⟨S3, hS3⟩)
            clear hS3 x2c
            go_wp2_with (at_builtin; refine wpList_append_own_at _ rfl _ _ 87 rfl w.heap.size 3 i3 (.int .i64 0) 1 8 Yba.underlying87 hi3 hz3 hs3 hby3 rfl (by decide) (.slice oa fl.length cap) fl.length (fl.map (Value.int .i64)) rfl (hown.alloc _) ⟨w3.heap.size, 0, none⟩ 1 1 [.int .i64 x] rfl rfl (cell_one_new _ _ _) (by simp [Value.oneCell']) (by unfold maxLen; omega) (by omega) (by simp; omega) ?_; intro v' w4 hown4 hgrow4 _ hblk4)
            go_meet
            case rel => exact ⟨h, fl ++ [x], rfl, by simp; omega, by simp; omega, HSP.out.append hown4 hgrow4 hblk4⟩
          · have hm : decide ((fl.length : Int) - (h : Int) < (size : Int)) = false := by simp; omega
            have HS2 := hide hS2
            clear hS2
            go_wp2
            go_meet
            case rel => exact ⟨h, fl, rfl, by omega, hfs, HS2.out⟩
        · obtain rfl : bb = false := by rw [hbb]; simp [h4]
          clear hbb
          have q1 : (rr == 1) = true := by simp [h4]
          clear h4
          by_cases hne : h < fl.length
          · have hm : decide ((0 : Int) < (fl.length : Int) - (h : Int)) = true := by simp; omega
            go_upto_region 28 with (go_at_call 15; refine Calls.mono (st_pop_yes HSX.out.st hne) ?_; rintro e w2 ⟨rfl, hS2⟩)
            obtain ⟨g, rfl, hg⟩ := hS2.getAt hne
            have HS2 := hide hS2
            clear hS2
            go_wp2
            go_meet
            case rel => exact ⟨h + 1, fl, by go_num, by omega, by omega, HS2.out⟩
          · have hm : decide ((0 : Int) < (fl.length : Int) - (h : Int)) = false := by simp; omega
            go_upto_region 28 with (go_at_call 15; refine Calls.mono (st_pop_no HSX.out.st (by omega)) ?_; rintro e w2 ⟨rfl, hS2⟩)
            have HS2 := hide hS2
            clear hS2
            go_wp2
            go_meet
            case rel => exact ⟨h, fl, rfl, by omega, hfs, HS2.out⟩
        · obtain rfl : bb = false := by rw [hbb]; simp [h4]
          clear hbb
          have q1 : (rr == 1) = false := by simp [h4]
          have q2 : (rr == 2) = true := by simp [h4]
          clear h4
          go_upto_if 102 with (go_at_call 13; refine Calls.mono (st_reserve HSX.out.st) ?_; rintro e w2 ⟨r, rfl, hr⟩)
          rcases hr with ⟨rfl, hy, hS2⟩ | ⟨rfl, hy, hS2⟩
          · have HS2 := hide hS2
            have HLN := hide (st_len hS2 (by omega) (by omega))
            have HUN := hide (st_unres hS2)
            clear hS2
            go_wp2_with (first
              | (go_at_call 12; refine Calls.mono HLN.out ?_; rintro e w' ⟨rfl, rfl⟩)
              | (go_at_call 16; refine Calls.mono HUN.out ?_; rintro e w3 ⟨rfl, hS3⟩))
            go_meet
            case rel => exact ⟨h, fl, rfl, by omega, hfs, hS3⟩
          · have HS2 := hide hS2
            clear hS2
            go_wp2
            go_meet
            case rel => exact ⟨h, fl, rfl, by omega, hfs, HS2.out⟩
        · obtain rfl : bb = false := by rw [hbb]; simp [h4]
          clear hbb
          have q1 : (rr == 1) = false := by simp [h4]
          have q2 : (rr == 2) = false := by simp [h4]
          clear h4
          go_upto_region 15 with (go_at_call 17; refine Calls.mono (st_force HSX.out.st) ?_; rintro e w2 ⟨rfl, hS2⟩)
          have HLN := hide (st_len hS2 (by omega) (by omega))
          have HUN := hide (st_unres hS2)
          clear hS2
          go_wp2_with (first
            | (go_at_call 12; refine Calls.mono HLN.out ?_; rintro e w' ⟨rfl, rfl⟩)
            | (go_at_call 16; refine Calls.mono HUN.out ?_; rintro e w3 ⟨rfl, hS3⟩))
          go_meet
          case rel => exact ⟨h, fl, rfl, by omega, hfs, hS3⟩
      case rest =>
        obtain ⟨h', fl', rfl, hf1, hf2, hS'⟩ := hcut
        clear hbb
        obtain ⟨oa', cap', rfl⟩ := hS'.shape
        have hb' := hS'.bounds
        have HS' := hide hS'
        have hb1' := hb'.1
        have hm : decide ((size : Int) < (fl'.length : Int) - (h' : Int)) = false := by simp; omega
        have HLN := hide (st_len hS' hb1' (by omega))
        clear hS' hb' HSX HX1
        go_wp2_with (go_at_call 12; refine Calls.mono HLN.out ?_; rintro e w' ⟨rfl, rfl⟩)
        go_roundw
        case rel => exact ⟨i + 1, h', fl', by omega, by go_num, rfl, by omega, hf2, HS'.out⟩
        case measure => simp [intOf]; omega
    · obtain rfl : i = N := by omega
      clear hfi hfs
      go_wp2
      go_ret
      exact ⟨rfl, hbel⟩
end Go.Proofs.Ybulkeca
