import Derived.Test.YbulkdzwClock
set_option linter.unusedVariables false
namespace Go.Proofs.Ybulkdzw
open Go.RowKit

/-- The largest of the first k values, and the event that first bears it: 0 and -1 where all are 0. -/
def best (val : Nat → Int) (fj : Nat → Nat) : Nat → Int × Int
  | 0 => (0, -1)
  | k + 1 => if (best val fj k).1 < val (fj k) then (val (fj k), (fj k : Int)) else best val fj k

theorem best_up {val : Nat → Int} {fj : Nat → Nat} {k : Nat} (h : (best val fj k).1 < val (fj k)) : best val fj (k + 1) = (val (fj k), (fj k : Int)) := by simp [best, h]
theorem best_stay {val : Nat → Int} {fj : Nat → Nat} {k : Nat} (h : val (fj k) ≤ (best val fj k).1) : best val fj (k + 1) = best val fj k := by simp [best, Int.not_lt.2 h]

theorem best_law (val : Nat → Int) (fj : Nat → Nat) : ∀ k, 0 ≤ (best val fj k).1 ∧ (∀ q, q < k → val (fj q) ≤ (best val fj k).1) ∧
    ((best val fj k).1 = 0 → (best val fj k).2 = -1) ∧ (0 < (best val fj k).1 → ∃ p, p < k ∧ val (fj p) = (best val fj k).1 ∧ (∀ q, q < p → val (fj q) ≠ (best val fj k).1) ∧ (best val fj k).2 = (fj p : Int))
  | 0 => ⟨by simp [best], fun q hq => absurd hq (Nat.not_lt_zero _), fun _ => rfl, fun h => by simp [best] at h⟩
  | k + 1 => by
    obtain ⟨i0, i1, i2, i3⟩ := best_law val fj k
    by_cases h : (best val fj k).1 < val (fj k)
    · rw [best_up h]
      refine ⟨by simp only; omega, fun q hq => ?_, fun e => by simp only at e; omega, fun _ => ⟨k, by omega, rfl, fun q hq => ?_, rfl⟩⟩
      · by_cases e : q = k
        · rw [e]; exact Int.le_refl _
        · have := i1 q (by omega); simp only; omega
      · have := i1 q hq; simp only; omega
    · rw [best_stay (by omega)]
      refine ⟨i0, fun q hq => ?_, i2, fun hp => ?_⟩
      · by_cases e : q = k
        · rw [e]; omega
        · exact i1 q (by omega)
      · obtain ⟨p, hp1, hp2, hp3, hp4⟩ := i3 hp
        exact ⟨p, by omega, hp2, hp3, hp4⟩

theorem ret_ui {a b c d : Int} (h : a = b) (h' : c = d) : Ending.returned (.tuple #[.int .u64 a, .int .i64 c]) = .returned (.tuple #[.int .u64 b, .int .i64 d]) := by rw [h, h']

/-- The log's memory, as 'largestEntry' reads it. -/
structure LogAt (w : World) (P B N capE base : Nat) (cx : Nat → Nat → Int) (cv : Nat → Value) : Prop where
  p : w.cell? ⟨P, 0, none⟩ = some (.slice (some ⟨B, 0, none⟩) N capE)
  c : ∀ j, j < N → w.cell? ⟨B, j * 6 + 2, none⟩ = some (cv j)
  k : ∀ j, j < N → Clk w base (cx j) 4 (cv j)
  lp : P < w.heap.size
  lb : B < w.heap.size

theorem Clk.below {w w' : World} {b k : Nat} {cx : Nat → Int} {v : Value} (h : Clk w b cx k v) (hb : Below w.heap.size w w') : Clk w' b cx k v := h.kept (fun i _ hi => hb.block i hi)

set_option maxRecDepth 100000 in
theorem largest_none (P t : Nat) (a : Option Addr) (cap : Nat) (w : World) :
    Calls Yba.prog 6 #[.pointer (some ⟨P, 0, none⟩), .slice a 0 cap, .string (hn t)] w fun e w' => e = .returned (.tuple #[.int .u64 0, .int .i64 (-1)]) ∧ Below w.heap.size w w' := by
  go_enter Yba.func6, Yba.ntmps6
  go_wp2
  refine wp_loop_rounds 1 ?_
  rw [rounds_succ]
  go_wp2
  go_ret2
  exact ⟨rfl, Below.refl _ _⟩

set_option maxRecDepth 100000 in
set_option maxHeartbeats 400000 in
theorem largest_some (P B N capE base F m cap t : Nat) (cx : Nat → Nat → Int) (cv : Nat → Value) (fj : Nat → Nat) (w : World) (hL : LogAt w P B N capE base cx cv) (hN : N ≤ 1024) (hm : m ≤ 1024) (ht : t < 5)
    (hF : F < w.heap.size) (hf : ∀ p, p < m → w.cell? ⟨F, p, none⟩ = some (.int .i64 (fj p)) ∧ fj p < N) :
    Calls Yba.prog 6 #[.pointer (some ⟨P, 0, none⟩), .slice (some ⟨F, 0, none⟩) m cap, .string (hn t)] w fun e w' =>
      e = .returned (.tuple #[.int .u64 (best (fun j => if t < 4 then cx j t else 0) fj m).1, .int .i64 (best (fun j => if t < 4 then cx j t else 0) fj m).2]) ∧ Below w.heap.size w w' := by
  generalize hval : (fun j => if t < 4 then cx j t else 0) = val
  have HV : Hid _ := hval
  clear hval
  have HL : Hid _ := hL
  have HF : Hid _ := hf
  clear hL hf
  go_enter Yba.func6, Yba.ntmps6
  go_wp2
  go_loopw [6, 7, 13] (fun n from_ i wr => ∃ k : Nat, k ≤ m ∧ i = .int .i64 k ∧ n = .int .u64 (best val fj k).1 ∧ from_ = .int .i64 (best val fj k).2 ∧ Below w.heap.size w wr) (fun _ _ i _ => m - (intOf i).toNat)
  case atStart => exact ⟨0, Nat.zero_le _, rfl, rfl, rfl, Below.refl _ _⟩
  case round =>
    obtain ⟨k, hk, rfl, rfl, rfl, bel⟩ := hrel
    by_cases hlt : k < m
    · obtain ⟨hfc, hfN⟩ := HF.out k hlt
      have hL := HL.out
      have d0 : wr.cell? ⟨F, k, none⟩ = some (.int .i64 (fj k)) := (bel.cell hF).trans hfc
      have d1 : wr.cell? ⟨P, 0, none⟩ = some (.slice (some ⟨B, 0, none⟩) N capE) := (bel.cell hL.lp).trans hL.p
      have d2 : wr.cell? ⟨B, fj k * 6 + 2, none⟩ = some (cv (fj k)) := (bel.cell hL.lb).trans (hL.c (fj k) hfN)
      have hC : Clk wr base (cx (fj k)) 4 (cv (fj k)) := (hL.k (fj k) hfN).below bel
      have hG := get_any (t := t) hC (Nat.le_refl _) ht
      have e : (if t < 4 then cx (fj k) t else 0) = val (fj k) := by rw [← HV.out]
      rw [e] at hG
      have HG : Hid _ := hG
      clear e hG hC hL hfc
      have HB := best_law val fj k
      have h0 := HB.1
      clear HB
      by_cases hu : (best val fj k).1 < val (fj k)
      · have hb := best_up hu
        have HB : Hid _ := hb
        clear hb
        go_wp2_with (go_at_call 9; refine Calls.mono HG.out ?_; rintro e w' ⟨rfl, hb⟩)
        go_roundw
        case rel => exact ⟨k + 1, by omega, by go_num, by rw [HB.out], by rw [HB.out], bel.trans (hb.mono bel.size)⟩
        case measure => simp [intOf]; omega
      · have hb := best_stay (Int.not_lt.1 hu)
        have HB : Hid _ := hb
        clear hb
        go_wp2_with (go_at_call 9; refine Calls.mono HG.out ?_; rintro e w' ⟨rfl, hb⟩)
        go_roundw
        case rel => exact ⟨k + 1, by omega, by go_num, by rw [HB.out], by rw [HB.out], bel.trans (hb.mono bel.size)⟩
        case measure => simp [intOf]; omega
    · obtain rfl : k = m := by omega
      go_wp2
      go_ret2
      exact ⟨rfl, bel⟩
end Go.Proofs.Ybulkdzw
