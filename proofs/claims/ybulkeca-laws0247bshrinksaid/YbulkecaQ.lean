import Derived.Test.YbulkecaAtom
import Derived.Deep.QuietTactic
import Derived.BigQuiet
import Derived.Deep.RegionWith
import Derived.Deep.DeepCutAuto
import Derived.Deep.Cut
set_option linter.unusedVariables false
namespace Go.Proofs.Ybulkeca
open Go.RowKit

/-- The queue's own fields. -/
structure Qs (w : World) (Q size maxC head hr tail tr res lim : Nat) : Prop where
  c0 : w.cell? ⟨Q, 0, none⟩ = some (.int .u64 size)
  c1 : w.cell? ⟨Q, 1, none⟩ = some (.int .u64 maxC)
  c66 : w.cell? ⟨Q, 66, none⟩ = some (.int .u64 head)
  c67 : w.cell? ⟨Q, 67, none⟩ = some (.pointer (some ⟨hr, 0, none⟩))
  c132 : w.cell? ⟨Q, 132, none⟩ = some (.int .u64 tail)
  c133 : w.cell? ⟨Q, 133, none⟩ = some (.pointer (some ⟨tr, 0, none⟩))
  c134 : w.cell? ⟨Q, 134, none⟩ = some (.int .u64 res)
  c135 : w.cell? ⟨Q, 135, none⟩ = some (.int .u64 lim)
  fz : ∀ k, w.frozen? ⟨Q, k, none⟩ = false

/-- What a step that touches the blocks S leaves alone. -/
structure Touch (S : List Nat) (w w' : World) : Prop where
  os : w'.os = w.os
  tape : w'.tape = w.tape
  output : w'.output = w.output
  size : w.heap.size ≤ w'.heap.size
  block : ∀ i, i < w.heap.size → i ∉ S → w'.heap[i]? = w.heap[i]?

theorem Touch.refl (S : List Nat) (w : World) : Touch S w w := ⟨rfl, rfl, rfl, Nat.le_refl _, fun _ _ _ => rfl⟩
theorem Touch.trans {S : List Nat} {a b c : World} (h : Touch S a b) (k : Touch S b c) : Touch S a c :=
  ⟨k.os.trans h.os, k.tape.trans h.tape, k.output.trans h.output, Nat.le_trans h.size k.size, fun i hi hn => (k.block i (Nat.lt_of_lt_of_le hi h.size) hn).trans (h.block i hi hn)⟩
theorem Touch.mono {S T : List Nat} {a b : World} (h : Touch S a b) (hs : ∀ i, i ∈ S → i ∈ T) : Touch T a b := ⟨h.os, h.tape, h.output, h.size, fun i hi hn => h.block i hi (fun hm => hn (hs i hm))⟩
theorem Touch.drew {S : List Nat} {a b : World} (h : Touch S a b) : Touch S a b.drew := ⟨h.os, h.tape, h.output, h.size, h.block⟩
theorem Touch.setCell {S : List Nat} {a w : World} (h : Touch S a w) {p : Addr} (hp : p.block ∈ S) (u : Value) : Touch S a (w.setCell p u) :=
  ⟨h.os, h.tape, h.output, by simpa [World.setCell] using h.size, fun i hi hn => (Below.heap_setCell _ _ _ _ (fun e => hn (by rw [e]; exact hp))).trans (h.block i hi hn)⟩
theorem Touch.cell {S : List Nat} {w w' : World} (h : Touch S w w') {p : Addr} {v : Value} (hc : w.cell? p = some v) (hn : p.block ∉ S) : w'.cell? p = some v :=
  (World.cell?_of_block (h.block p.block (World.block_lt_of_cell? _ _ hc) hn)).trans hc

theorem cell_setCell {w : World} {b i j : Nat} {u v : Value} (h : w.cell? ⟨b, j, none⟩ = some v) (hne : j ≠ i) : (w.setCell ⟨b, i, none⟩ u).cell? ⟨b, j, none⟩ = some v := by
  exact (World.cell?_setCell_other w ⟨b, i, none⟩ ⟨b, j, none⟩ u (by intro e; injection e with _ e2; exact hne (by first | exact e2 | exact e2.symm))).trans h

section
variable {w : World} {Q size maxC head hr tail tr res lim : Nat}
theorem Qs.of_block {w' : World} (h : Qs w Q size maxC head hr tail tr res lim) (hb : w'.heap[Q]? = w.heap[Q]?) : Qs w' Q size maxC head hr tail tr res lim := by
  have k : ∀ {o v}, w.cell? ⟨Q, o, none⟩ = some v → w'.cell? ⟨Q, o, none⟩ = some v := fun hc => (World.cell?_of_block (a := ⟨Q, _, none⟩) hb).trans hc
  exact ⟨k h.c0, k h.c1, k h.c66, k h.c67, k h.c132, k h.c133, k h.c134, k h.c135, fun o => (World.frozen?_of_block (a := ⟨Q, o, none⟩) hb).trans (h.fz o)⟩
theorem Qs.lt (h : Qs w Q size maxC head hr tail tr res lim) : Q < w.heap.size := World.block_lt_of_cell? _ _ h.c0
theorem Qs.setHead (h : Qs w Q size maxC head hr tail tr res lim) (x : Nat) : Qs (w.setCell ⟨Q, 66, none⟩ (.int .u64 x)) Q size maxC x hr tail tr res lim :=
  ⟨cell_setCell h.c0 (by omega), cell_setCell h.c1 (by omega), World.cell?_setCell_same _ _ _ h.c66, cell_setCell h.c67 (by omega), cell_setCell h.c132 (by omega), cell_setCell h.c133 (by omega), cell_setCell h.c134 (by omega), cell_setCell h.c135 (by omega), fun k => by rw [World.frozen?_setCell]; exact h.fz k⟩
theorem Qs.setHr (h : Qs w Q size maxC head hr tail tr res lim) (x : Nat) : Qs (w.setCell ⟨Q, 67, none⟩ (.pointer (some ⟨x, 0, none⟩))) Q size maxC head x tail tr res lim :=
  ⟨cell_setCell h.c0 (by omega), cell_setCell h.c1 (by omega), cell_setCell h.c66 (by omega), World.cell?_setCell_same _ _ _ h.c67, cell_setCell h.c132 (by omega), cell_setCell h.c133 (by omega), cell_setCell h.c134 (by omega), cell_setCell h.c135 (by omega), fun k => by rw [World.frozen?_setCell]; exact h.fz k⟩
theorem Qs.setTail (h : Qs w Q size maxC head hr tail tr res lim) (x : Nat) : Qs (w.setCell ⟨Q, 132, none⟩ (.int .u64 x)) Q size maxC head hr x tr res lim :=
  ⟨cell_setCell h.c0 (by omega), cell_setCell h.c1 (by omega), cell_setCell h.c66 (by omega), cell_setCell h.c67 (by omega), World.cell?_setCell_same _ _ _ h.c132, cell_setCell h.c133 (by omega), cell_setCell h.c134 (by omega), cell_setCell h.c135 (by omega), fun k => by rw [World.frozen?_setCell]; exact h.fz k⟩
theorem Qs.setTr (h : Qs w Q size maxC head hr tail tr res lim) (x : Nat) : Qs (w.setCell ⟨Q, 133, none⟩ (.pointer (some ⟨x, 0, none⟩))) Q size maxC head hr tail x res lim :=
  ⟨cell_setCell h.c0 (by omega), cell_setCell h.c1 (by omega), cell_setCell h.c66 (by omega), cell_setCell h.c67 (by omega), cell_setCell h.c132 (by omega), World.cell?_setCell_same _ _ _ h.c133, cell_setCell h.c134 (by omega), cell_setCell h.c135 (by omega), fun k => by rw [World.frozen?_setCell]; exact h.fz k⟩
theorem Qs.setRes (h : Qs w Q size maxC head hr tail tr res lim) (x : Nat) : Qs (w.setCell ⟨Q, 134, none⟩ (.int .u64 x)) Q size maxC head hr tail tr x lim :=
  ⟨cell_setCell h.c0 (by omega), cell_setCell h.c1 (by omega), cell_setCell h.c66 (by omega), cell_setCell h.c67 (by omega), cell_setCell h.c132 (by omega), cell_setCell h.c133 (by omega), World.cell?_setCell_same _ _ _ h.c134, cell_setCell h.c135 (by omega), fun k => by rw [World.frozen?_setCell]; exact h.fz k⟩
theorem Qs.setLim (h : Qs w Q size maxC head hr tail tr res lim) (x : Nat) : Qs (w.setCell ⟨Q, 135, none⟩ (.int .u64 x)) Q size maxC head hr tail tr res x :=
  ⟨cell_setCell h.c0 (by omega), cell_setCell h.c1 (by omega), cell_setCell h.c66 (by omega), cell_setCell h.c67 (by omega), cell_setCell h.c132 (by omega), cell_setCell h.c133 (by omega), cell_setCell h.c134 (by omega), World.cell?_setCell_same _ _ _ h.c135, fun k => by rw [World.frozen?_setCell]; exact h.fz k⟩
theorem Qs.drew (h : Qs w Q size maxC head hr tail tr res lim) : Qs w.drew Q size maxC head hr tail tr res lim := ⟨h.c0, h.c1, h.c66, h.c67, h.c132, h.c133, h.c134, h.c135, h.fz⟩
end

theorem len_at (w : World) (Q size maxC head hr tail tr res lim : Nat) (h : Qs w Q size maxC head hr tail tr res lim) (hle : head ≤ res) (hb : res ≤ 4294967296) :
    Calls Yba.prog 12 #[.pointer (some ⟨Q, 0, none⟩)] w fun e w' => e = .returned (.int .i64 ((res : Int) - (head : Int))) ∧ w = w' := by
  have H := hide h
  clear h
  go_enter Yba.func12, Yba.ntmps12
  go_wp2_with (go_at_call 29; refine Calls.mono (load_at Q 66 head w H.out.c66) ?_; rintro e w' ⟨rfl, rfl⟩)
  refine wp_loop_rounds 1 ?_
  rw [rounds_succ]
  go_wp2_with (first
    | (go_at_call 29; refine Calls.mono (load_at Q 66 head w H.out.c66) ?_; rintro e w' ⟨rfl, rfl⟩)
    | (go_at_call 29; refine Calls.mono (load_at Q 134 res w H.out.c134) ?_; rintro e w' ⟨rfl, rfl⟩))
  go_ret
  exact ⟨rfl, rfl⟩

theorem force_at (w : World) (Q size maxC head hr tail tr res lim : Nat) (h : Qs w Q size maxC head hr tail tr res lim) (hb : res ≤ 4294967296) :
    Calls Yba.prog 17 #[.pointer (some ⟨Q, 0, none⟩)] w fun e w' => e = .returned (.tuple #[]) ∧ Qs w' Q size maxC head hr tail tr (res + 1) lim ∧ Touch [Q] w w' := by
  have H := hide h
  have HS := hide (show (Op.intArith .add .u64 (res : Int) 1).run Yba.prog w = .ok (.int .u64 ((res + 1 : Nat) : Int)) w by
    simp [go_sem, Op.intArith, IntKind.wrap_u64]
    omega)
  clear h
  go_enter Yba.func17, Yba.ntmps17
  go_wp2_with (go_at_call 35; refine Calls.mono (add_at Q 134 res 1 _ w H.out.c134 (H.out.fz _) HS.out) ?_; rintro e w' ⟨rfl, rfl⟩)
  go_end0
  exact ⟨rfl, H.out.setRes _, (Touch.refl _ _).setCell (by simp) _⟩

theorem unres_at (w : World) (Q size maxC head hr tail tr res lim : Nat) (h : Qs w Q size maxC head hr tail tr (res + 1) lim) (hle : head ≤ res) (hb : res ≤ 4294967296) :
    Calls Yba.prog 16 #[.pointer (some ⟨Q, 0, none⟩)] w fun e w' => e = .returned (.bool ((res : Int) - (head : Int) == 0)) ∧ Qs w' Q size maxC head hr tail tr res lim ∧ Touch [Q] w w' := by
  have H := hide h
  have HS := hide (show (Op.intArith .add .u64 ((res + 1 : Nat) : Int) 18446744073709551615).run Yba.prog w = .ok (.int .u64 ((res : Nat) : Int)) w by
    simp [go_sem, Op.intArith, IntKind.wrap_u64]
    omega)
  have HL := hide (len_at _ Q size maxC head hr tail tr res lim (h.setRes res) hle hb)
  clear h
  go_enter Yba.func16, Yba.ntmps16
  go_wp2_with (first
    | (go_at_call 35; refine Calls.mono (add_at Q 134 (res + 1 : Nat) 18446744073709551615 _ w H.out.c134 (H.out.fz _) HS.out) ?_; rintro e w' ⟨rfl, rfl⟩)
    | (go_at_call 12; refine Calls.mono HL.out ?_; rintro e w' ⟨rfl, rfl⟩))
  go_ret
  exact ⟨rfl, H.out.setRes _, (Touch.refl _ _).setCell (by simp) _⟩

set_option maxHeartbeats 1000000 in
theorem reserve_yes (w : World) (Q size maxC head hr tail tr res lim : Nat) (h : Qs w Q size maxC head hr tail tr res lim) (hb : res ≤ 4294967296) (hh : head ≤ 4294967296) (hz : size ≤ 4294967296) (hl : lim ≤ head + size) (hy : res < head + size) :
    Calls Yba.prog 13 #[.pointer (some ⟨Q, 0, none⟩)] w fun e w' => e = .returned (.bool true) ∧ (∃ lim', lim' ≤ head + size ∧ Qs w' Q size maxC head hr tail tr (res + 1) lim') ∧ Touch [Q] w w' := by
  have H := hide h
  have c0 := h.c0
  clear h
  by_cases hr0 : res < lim
  · go_enter Yba.func13, Yba.ntmps13
    go_wp2
    refine wp_loop_rounds 1 ?_
    rw [rounds_succ]
    go_wp2_with (first
      | (go_at_call 29; refine Calls.mono (load_at Q 134 res w H.out.c134) ?_; rintro e w' ⟨rfl, rfl⟩)
      | (go_at_call 29; refine Calls.mono (load_at Q 135 lim w H.out.c135) ?_; rintro e w' ⟨rfl, rfl⟩)
      | (go_at_call 30; refine Calls.mono (cas_at Q 134 res _ w H.out.c134 (H.out.fz _)) ?_; rintro e w' ⟨rfl, rfl⟩))
    go_ret
    exact ⟨rfl, ⟨lim, hl, H.out.setRes (res + 1)⟩, (Touch.refl _ _).setCell (by simp) _⟩
  · have hlim : lim ≤ res := by omega
    clear hr0
    have H2 := hide (H.out.drew.setLim (head + size))
    have HLD := hide (load_at Q 66 head w.drew H.out.drew.c66)
    have HST := hide (store_at Q 135 _ ((head + size : Nat) : Int) w.drew H.out.drew.c135 (H.out.drew.fz _))
    have HCS := hide (cas_at Q 134 res ((res + 1 : Nat) : Int) _ H2.out.c134 (H2.out.fz _))
    go_enter Yba.func13, Yba.ntmps13
    go_wp2
    refine wp_loop_rounds 1 ?_
    rw [rounds_succ]
    go_upto_region 3 with (first
      | (go_at_call 29; refine Calls.mono (load_at Q 134 res w H.out.c134) ?_; rintro e w' ⟨rfl, rfl⟩)
      | (go_at_call 29; refine Calls.mono (load_at Q 135 lim w H.out.c135) ?_; rintro e w' ⟨rfl, rfl⟩))
    go_region_with (go_at_call 29; refine Calls.mono HLD.out ?_; rintro e w' ⟨rfl, rfl⟩)
    all_goals
      go_wp2_with (first
        | (go_at_call 28; refine Calls.mono HST.out ?_; rintro e w' ⟨rfl, rfl⟩)
        | (go_at_call 30; refine Calls.mono HCS.out ?_; rintro e w' ⟨rfl, rfl⟩))
      go_ret
      exact ⟨rfl, ⟨head + size, Nat.le_refl _, H2.out.setRes (res + 1)⟩, (((Touch.refl [Q] w).drew).setCell (by simp) _).setCell (by simp) _⟩
end Go.Proofs.Ybulkeca
