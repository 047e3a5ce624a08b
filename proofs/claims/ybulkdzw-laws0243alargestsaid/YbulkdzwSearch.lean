import Derived.Test.YbulkdzwHost
import Derived.Deep.DeepCutAuto
namespace Go.Proofs.Ybulkdzw
open Go.RowKit

theorem cmp_lt (i j : Nat) (c : Int) (w : World) (hj : j < 5) (h : i < j) :
    Calls Yba.prog 12 #[.agg #[.string (hn i), .int .u64 c], .string (hn j)] w fun e w' => e = .returned (.int .i64 (-1)) ∧ Below w.heap.size w w' := by
  have := cmp12 (hn i) (hn j) c w
  rw [hn_cmp i j (by omega) hj, if_pos h] at this
  exact this

theorem cmp_eq (i j : Nat) (c : Int) (w : World) (hj : j < 5) (h : i = j) :
    Calls Yba.prog 12 #[.agg #[.string (hn i), .int .u64 c], .string (hn j)] w fun e w' => e = .returned (.int .i64 0) ∧ Below w.heap.size w w' := by
  have := cmp12 (hn i) (hn j) c w
  rw [hn_cmp i j (by omega) hj, if_neg (by omega), if_neg (by omega)] at this
  exact this

theorem cmp_gt (i j : Nat) (c : Int) (w : World) (hi : i < 5) (h : j < i) :
    Calls Yba.prog 12 #[.agg #[.string (hn i), .int .u64 c], .string (hn j)] w fun e w' => e = .returned (.int .i64 1) ∧ Below w.heap.size w w' := by
  have := cmp12 (hn i) (hn j) c w
  rw [hn_cmp i j hi (by omega), if_neg (by omega), if_pos h] at this
  exact this

theorem cmp_ge (i j : Nat) (c : Int) (w : World) (hi : i < 5) (h : j ≤ i) :
    Calls Yba.prog 12 #[.agg #[.string (hn i), .int .u64 c], .string (hn j)] w fun e w' => (∃ r : Int, 0 ≤ r ∧ e = .returned (.int .i64 r)) ∧ Below w.heap.size w w' := by
  by_cases e : i = j
  · exact (cmp_eq i j c w (by omega) e).mono fun e w' h => ⟨⟨0, by omega, h.1⟩, h.2⟩
  · exact (cmp_gt i j c w hi (by omega)).mono fun e w' h => ⟨⟨1, by omega, h.1⟩, h.2⟩

theorem ret_ib {a b : Int} {c d : Bool} (h : a = b) (h' : c = d) : Ending.returned (.tuple #[.int .i64 a, .bool c]) = .returned (.tuple #[.int .i64 b, .bool d]) := by rw [h, h']

set_option maxRecDepth 100000 in
set_option maxHeartbeats 400000 in
theorem bsearch (g n cap t : Nat) (κ : Nat → Nat) (x : Nat → Int) (w : World) (hn4 : n ≤ 4) (hg : g < w.heap.size) (ht : t < 5) (hκ : ∀ j, j < n → κ j < 5) (hmono : ∀ i j, i < j → j < n → κ i < κ j)
    (hc0 : ∀ j, j < n → w.cell? ⟨g, j * 2, none⟩ = some (.string (hn (κ j)))) (hc1 : ∀ j, j < n → w.cell? ⟨g, j * 2 + 1, none⟩ = some (.int .u64 (x j))) :
    Calls Yba.prog 11 #[.slice (some ⟨g, 0, none⟩) n cap, .string (hn t), .func (.func 12) #[] #[]] w fun e w' => ∃ i : Nat, e = .returned (.tuple #[.int .i64 i, .bool (decide (i < n ∧ κ i = t))]) ∧ (∀ j, j < n → κ j = t → j = i) ∧ Below w.heap.size w w' := by
  go_enter Yba.func11, Yba.ntmps11
  go_wp2
  go_loopw [9, 10] (fun lo hi wr => ∃ l h : Nat, l ≤ h ∧ h ≤ n ∧ lo = .int .i64 l ∧ hi = .int .i64 h ∧ (∀ j, j < l → κ j < t) ∧ (∀ j, h ≤ j → j < n → t ≤ κ j) ∧ Below w.heap.size w wr) (fun lo hi _ => (intOf hi).toNat - (intOf lo).toNat)
  case atStart => exact ⟨0, n, Nat.zero_le _, Nat.le_refl _, rfl, rfl, fun j hj => absurd hj (Nat.not_lt_zero _), fun j h1 h2 => by omega, Below.refl _ _⟩
  case round =>
    obtain ⟨l, h, hlh, hhn, rfl, rfl, hlo, hhi, bel⟩ := hrel
    by_cases hlt : l < h
    · go_upto_region 5 with fail
      obtain ⟨m, hm⟩ : ∃ m : Nat, ((l : Int) + (h : Int)) / 2 = (m : Int) := ⟨(l + h) / 2, by omega⟩
      have hlm : l ≤ m := by omega
      have hmh : m < h := by omega
      rw [hm]
      have HM : Hid _ := hm
      clear hm
      have d0 : wr.cell? ⟨g, m * 2, none⟩ = some (.string (hn (κ m))) := (bel.cell hg).trans (hc0 m (by omega))
      have d1 : wr.cell? ⟨g, m * 2 + 1, none⟩ = some (.int .u64 (x m)) := (bel.cell hg).trans (hc1 m (by omega))
      have HLO : Hid _ := hlo
      have HHI : Hid _ := hhi
      have HMO : Hid _ := hmono
      have h5 := hκ m (by omega)
      by_cases hk : κ m < t
      · clear hlo hhi hmono hc0 hc1 hκ
        go_wp2_with (go_at_call 12; refine (cmp_lt (κ m) t (x m) _ ht hk).mono ?_; rintro e w' ⟨rfl, hb⟩)
        go_roundw
        case rel => exact ⟨m + 1, h, by omega, hhn, by go_num, rfl, fun j hj => if e : j = m then by rw [e]; exact hk else Nat.lt_trans (HMO.out j m (by omega) (by omega)) hk, HHI.out, bel.trans (hb.mono bel.size)⟩
        case measure => simp [intOf]; omega
      · clear hlo hhi hmono hc0 hc1 hκ
        go_wp2_with (go_at_call 12; refine (cmp_ge (κ m) t (x m) _ h5 (by omega)).mono ?_; rintro e w' ⟨⟨r, hr, rfl⟩, hb⟩)
        go_roundw
        case rel => exact ⟨l, m, hlm, by omega, rfl, rfl, HLO.out, fun j h1 h2 => if e : j = m then by rw [e]; omega else by have := HMO.out m j (by omega) h2; omega, bel.trans (hb.mono bel.size)⟩
        case measure => simp [intOf]; omega
    · obtain rfl : l = h := by omega
      have HLO : Hid _ := hlo
      have HHI : Hid _ := hhi
      have HMO : Hid _ := hmono
      have huniq : ∀ j, j < n → κ j = t → j = l := by
        intro j hj e
        by_cases h1 : j < l
        · have := hlo j h1; omega
        · by_cases h2 : j = l
          · exact h2
          · have := hmono l j (by omega) hj
            have := hhi l (Nat.le_refl _) (by omega)
            omega
      have HU : Hid _ := huniq
      by_cases hln : l < n
      · have h5 := hκ l hln
        have d0 : wr.cell? ⟨g, l * 2, none⟩ = some (.string (hn (κ l))) := (bel.cell hg).trans (hc0 l hln)
        have d1 : wr.cell? ⟨g, l * 2 + 1, none⟩ = some (.int .u64 (x l)) := (bel.cell hg).trans (hc1 l hln)
        have hge := hhi l (Nat.le_refl _) hln
        clear hlo hhi hmono hc0 hc1 hκ huniq
        by_cases hk : κ l = t
        · have HK : Hid (κ l = t) := hk
          clear hk
          go_wp2_with (go_at_call 12; refine (cmp_eq (κ l) t (x l) _ ht HK.out).mono ?_; rintro e w' ⟨rfl, hb⟩)
          go_ret2
          exact ⟨l, ret_ib rfl (decide_eq_true ⟨hln, HK.out⟩).symm, HU.out, bel.trans (hb.mono bel.size)⟩
        · have hk' : t < κ l := by omega
          go_wp2_with (go_at_call 12; refine (cmp_gt (κ l) t (x l) _ h5 hk').mono ?_; rintro e w' ⟨rfl, hb⟩)
          go_ret2
          exact ⟨l, ret_ib rfl (decide_eq_false (fun h => hk h.2)).symm, HU.out, bel.trans (hb.mono bel.size)⟩
      · clear hlo hhi hmono hc0 hc1 hκ huniq
        go_wp2
        go_ret2
        exact ⟨l, ret_ib rfl (decide_eq_false (fun h => hln h.1)).symm, HU.out, bel⟩
end Go.Proofs.Ybulkdzw
