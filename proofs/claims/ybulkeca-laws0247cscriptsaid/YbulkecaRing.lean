import Derived.Test.YbulkecaQ
import Derived.OwnWalk
set_option linter.unusedVariables false
namespace Go.Proofs.Ybulkeca
open Go.RowKit

theorem Yba.info122 : (Yba.prog.info? 122).map (fun i => (i.zero, i.size, i.bytes)) = some (some (.agg #[.int .u64 0, .int .i64 0]), 2, 16) := by kernel_rfl

/-- The cells of a ring. -/
structure Cs (w : World) (C L : Nat) (sq : Nat → Nat) (tk : Nat → Int) : Prop where
  seq : ∀ j, j < L → w.cell? ⟨C, j * 2, none⟩ = some (.int .u64 (sq j))
  tsk : ∀ j, j < L → w.cell? ⟨C, j * 2 + 1, none⟩ = some (.int .i64 (tk j))
  fz : ∀ k, w.frozen? ⟨C, k, none⟩ = false

theorem Cs.of_block {w w' : World} {C L : Nat} {sq : Nat → Nat} {tk : Nat → Int} (h : Cs w C L sq tk) (hb : w'.heap[C]? = w.heap[C]?) : Cs w' C L sq tk :=
  ⟨fun j hj => (World.cell?_of_block (a := ⟨C, _, none⟩) hb).trans (h.seq j hj), fun j hj => (World.cell?_of_block (a := ⟨C, _, none⟩) hb).trans (h.tsk j hj), fun o => (World.frozen?_of_block (a := ⟨C, o, none⟩) hb).trans (h.fz o)⟩
theorem Cs.congr {w : World} {C L : Nat} {sq sq' : Nat → Nat} {tk tk' : Nat → Int} (h : Cs w C L sq tk) (h1 : ∀ j, j < L → sq' j = sq j) (h2 : ∀ j, j < L → tk' j = tk j) : Cs w C L sq' tk' :=
  ⟨fun j hj => by rw [h1 j hj]; exact h.seq j hj, fun j hj => by rw [h2 j hj]; exact h.tsk j hj, h.fz⟩
theorem Cs.setSeq {w : World} {C L : Nat} {sq : Nat → Nat} {tk : Nat → Int} (h : Cs w C L sq tk) {i : Nat} (hi : i < L) (x : Nat) : Cs (w.setCell ⟨C, i * 2, none⟩ (.int .u64 x)) C L (fun j => if j = i then x else sq j) tk := by
  refine ⟨fun j hj => ?_, fun j hj => cell_setCell (h.tsk j hj) (by omega), fun k => by rw [World.frozen?_setCell]; exact h.fz k⟩
  by_cases e : j = i
  · subst e; simp only [if_true]; exact World.cell?_setCell_same _ _ _ (h.seq j hj)
  · simp only [if_neg e]; exact cell_setCell (h.seq j hj) (by omega)
theorem Cs.setTsk {w : World} {C L : Nat} {sq : Nat → Nat} {tk : Nat → Int} (h : Cs w C L sq tk) {i : Nat} (hi : i < L) (x : Int) : Cs (w.setCell ⟨C, i * 2 + 1, none⟩ (.int .i64 x)) C L sq (fun j => if j = i then x else tk j) := by
  refine ⟨fun j hj => cell_setCell (h.seq j hj) (by omega), fun j hj => ?_, fun k => by rw [World.frozen?_setCell]; exact h.fz k⟩
  by_cases e : j = i
  · subst e; simp only [if_true]; exact World.cell?_setCell_same _ _ _ (h.tsk j hj)
  · simp only [if_neg e]; exact cell_setCell (h.tsk j hj) (by omega)
theorem Touch.setNew {S : List Nat} {a w : World} (h : Touch S a w) {p : Addr} (hp : a.heap.size ≤ p.block) (u : Value) : Touch S a (w.setCell p u) :=
  ⟨h.os, h.tape, h.output, by simpa [World.setCell] using h.size, fun i hi hn => (Below.heap_setCell _ _ _ _ (by omega)).trans (h.block i hi hn)⟩
theorem Touch.alloc {S : List Nat} {a w : World} (h : Touch S a w) (o : Obj) : Touch S a (w.alloc o) :=
  ⟨h.os, h.tape, h.output, by have := h.size; simp; omega, fun i hi hn => (Below.heap_alloc _ _ _ (Nat.lt_of_lt_of_le hi h.size)).trans (h.block i hi hn)⟩

theorem heap_new (w : World) (o : Obj) : (w.alloc o).heap[w.heap.size]? = some o := by
  show (w.heap.push o)[w.heap.size]? = some o
  simp

/-- A ring of a queue. -/
structure Rs (w : World) (R C base L : Nat) (nx : Option Addr) (sq : Nat → Nat) (tk : Nat → Int) : Prop where
  blk : w.heap[R]? = some (ringObj (.int .u64 base) (.int .u64 ((L : Int) - 1)) (.slice (some ⟨C, 0, none⟩) L L) (.pointer nx))
  cs : Cs w C L sq tk
  ne : R ≠ C

theorem made_at {n j : Nat} (hj : j < n) (x y : Value) : (madeCells #[x, y] (n * 2)).toList[j * 2]? = some x ∧ (madeCells #[x, y] (n * 2)).toList[j * 2 + 1]? = some y := by
  constructor
  · simp [madeCells, show j * 2 < n * 2 by omega]
  · simp [madeCells, show j * 2 + 1 < n * 2 by omega]

set_option maxHeartbeats 1000000 in
theorem newRing_at (L : Nat) (hL0 : 1 ≤ L) (hL : L ≤ 4096) (w : World) :
    Calls Yba.prog 26 #[.int .u64 (L : Int)] w fun e w' => ∃ R C, e = .returned (.pointer (some ⟨R, 0, none⟩)) ∧ w.heap.size ≤ R ∧ w.heap.size ≤ C ∧ Rs w' R C 0 L none (fun j => j) (fun _ => 0) ∧ Touch [] w w' := by
  obtain ⟨i122, hi, hz, hs, hb⟩ := info_parts Yba.info122
  go_enter Yba.func26, Yba.ntmps26
  go_upto_region 2 with (at_make; refine wpList_make_full _ rfl _ _ 113 rfl w.heap.size 122 i122 _ 2 Yba.underlying113 hi hz hs _ _ _ _ L rfl rfl rfl rfl (by rw [hb]; omega) (by unfold maxLen; omega) (Nat.le_refl _) ?_; intro w1 hown1 hgrow1)
  obtain ⟨W, hW⟩ : ∃ W, W = w1.alloc (.cells #[.int .u64 0, .int .u64 ((L : Int) - 1), .slice (some ⟨w.heap.size, 0, none⟩) L L, .pointer none] 115) := ⟨_, rfl⟩
  have hT : Touch [] w W := by
    rw [hW]
    exact Touch.alloc ⟨hgrow1.os, hgrow1.tape, hgrow1.output, hgrow1.size, fun i hi hn => hgrow1.block i hi (by simp)⟩ _
  have hlt : w.heap.size < w1.heap.size := by
    rcases hown1.2 with ⟨h, _⟩ | ⟨g, cap, cur, hv, hg, hh, _⟩
    · cases h
    · injection hv with hv1 hv2 hv3
      simp only [Option.some.injEq, Addr.mk.injEq] at hv1
      have := (Array.getElem?_eq_some_iff.1 hh).1
      omega
  have hcs : Cs W w.heap.size L (fun j => if j < 0 then j else 0) (fun _ => 0) := by
    have h1 : Cs w1 w.heap.size L (fun j => if j < 0 then j else 0) (fun _ => 0) := by
      rcases hown1.2 with ⟨h, _⟩ | ⟨g, cap, cur, hv, hg, hh, _, _, hsz, ht⟩
      · cases h
      · injection hv with hv1 hv2 hv3
        simp only [Option.some.injEq, Addr.mk.injEq] at hv1
        obtain ⟨rfl, _⟩ := hv1
        have hat : ∀ o, o < L * 2 → w1.cell? ⟨w.heap.size, o, none⟩ = (madeCells #[.int .u64 0, .int .i64 0] (L * 2)).toList[o]? := by
          intro o ho
          have e : (cur.toList.take (L * 2))[o]? = (madeCells #[.int .u64 0, .int .i64 0] (L * 2)).toList[o]? := by rw [ht]; rfl
          rw [List.getElem?_take, if_pos ho] at e
          simp only [World.cell?, hh]
          simpa using e
        refine ⟨fun j hj => ?_, fun j hj => ?_, fun k => by simp [World.frozen?, hh]⟩
        · rw [hat _ (by omega)]; exact (made_at hj _ _).1
        · rw [hat _ (by omega)]; exact (made_at hj _ _).2
    rw [hW]
    exact h1.of_block (Below.heap_alloc _ _ _ hlt)
  have hR : W.heap[w1.heap.size]? = some (ringObj (.int .u64 0) (.int .u64 ((L : Int) - 1)) (.slice (some ⟨w.heap.size, 0, none⟩) L L) (.pointer none)) := by
    rw [hW]; exact heap_new _ _
  rw [← hW]
  have c2 : W.cell? ⟨w1.heap.size, 2, none⟩ = some (.slice (some ⟨w.heap.size, 0, none⟩) L L) := by simp [World.cell?, hR, ringObj]
  have HT := hide hT
  have HCS := hide hcs
  have HR := hide hR
  clear hT hcs hR hW hown1 hgrow1
  go_wp2
  go_loopw [16] (fun i wr => ∃ k : Nat, k ≤ L ∧ i = .int .i64 k ∧ Cs wr w.heap.size L (fun j => if j < k then j else 0) (fun _ => 0) ∧ wr.heap[w1.heap.size]? = some (ringObj (.int .u64 0) (.int .u64 ((L : Int) - 1)) (.slice (some ⟨w.heap.size, 0, none⟩) L L) (.pointer none)) ∧ Touch [] w wr) (fun i _ => L - (intOf i).toNat)
  case atStart => exact ⟨0, Nat.zero_le _, rfl, HCS.out, HR.out, HT.out⟩
  case round =>
    clear HCS HR HT c2
    obtain ⟨k, hk, rfl, hC, hR, hT⟩ := hrel
    have c2 : wr.cell? ⟨w1.heap.size, 2, none⟩ = some (.slice (some ⟨w.heap.size, 0, none⟩) L L) := by simp [World.cell?, hR, ringObj]
    have HC := hide hC
    have HR := hide hR
    have HT := hide hT
    clear hC hR hT
    by_cases hlk : k < L
    · have HST := hide (store_at w.heap.size (k * 2) _ (k : Int) wr (HC.out.seq k hlk) (HC.out.fz _))
      go_wp2_with (go_at_call 28; refine Calls.mono HST.out ?_; rintro e w' ⟨rfl, rfl⟩)
      go_roundw
      case rel =>
        refine ⟨k + 1, by omega, by go_num, (HC.out.setSeq hlk k).congr (fun j hj => ?_) (fun _ _ => rfl), ?_, HT.out.setNew (Nat.le_refl _) _⟩
        · by_cases e : j = k
          · subst e; simp
          · simp only [if_neg e]
            by_cases h2 : j < k
            · simp [h2, show j < k + 1 by omega]
            · simp [h2, show ¬ j < k + 1 by omega]
        · rw [Below.heap_setCell _ _ _ _ (by simp only; omega)]; exact HR.out
      case measure => simp [intOf]; omega
    · obtain rfl : k = L := by omega
      go_wp2
      go_ret
      refine ⟨w1.heap.size, w.heap.size, rfl, by omega, Nat.le_refl _, ⟨HR.out, HC.out.congr (fun j hj => by simp [hj]) (fun _ _ => rfl), by omega⟩, HT.out⟩
end Go.Proofs.Ybulkeca
