import Derived.Test.YbulkecaPushes
import Derived.Maps.AppendAt
set_option linter.unusedVariables false
namespace Go.Proofs.Ybulkeca
open Go.RowKit

/-- The law's state: the queue, and the list it is held against. -/
def St (w wr : World) (Q size h : Nat) (fl : List Int) (res : Nat) (fv : Value) : Prop :=
  ∃ S, Inv wr Q size h fl res S ∧ wr.ownsRow w.heap.size 3 1 fv fl.length (fl.map (Value.int .i64)) ∧ (∀ i, i ∈ S → some i ≠ fv.ownBlock) ∧ (∀ i, i ∈ S → w.heap.size ≤ i) ∧ Below w.heap.size w wr

section
variable {w wr : World} {Q size h : Nat} {fl : List Int} {res : Nat} {fv : Value}

theorem st_touch {S S' : List Nat} {w' : World} {h' res' : Nat} (hown : wr.ownsRow w.heap.size 3 1 fv fl.length (fl.map (Value.int .i64))) (hd : ∀ i, i ∈ S → some i ≠ fv.ownBlock) (hl : ∀ i, i ∈ S → w.heap.size ≤ i) (hb : Below w.heap.size w wr)
    (hT : Touch S wr w') (hS : ∀ i, i ∈ S' → i ∈ S ∨ wr.heap.size ≤ i) : w'.ownsRow w.heap.size 3 1 fv fl.length (fl.map (Value.int .i64)) ∧ (∀ i, i ∈ S' → some i ≠ fv.ownBlock) ∧ (∀ i, i ∈ S' → w.heap.size ≤ i) ∧ Below w.heap.size w w' := by
  refine ⟨⟨hown.1, ?_⟩, ?_, ?_, ?_⟩
  · rcases hown.2 with h2 | ⟨g, cap, cur, rfl, hg, hh, r⟩
    · exact .inl h2
    · refine .inr ⟨g, cap, cur, rfl, hg, ?_, r⟩
      rw [hT.block g (Array.getElem?_eq_some_iff.1 hh).1 (fun hm => hd g hm rfl)]
      exact hh
  · intro i hi
    rcases hS i hi with h1 | h1
    · exact hd i h1
    · rcases hown.2 with ⟨rfl, _⟩ | ⟨g, cap, cur, rfl, hg, hh, r⟩
      · simp [Value.ownBlock]
      · have := (Array.getElem?_eq_some_iff.1 hh).1
        simp only [Value.ownBlock, ne_eq, Option.some.injEq]
        omega
  · intro i hi
    rcases hS i hi with h1 | h1
    · exact hl i h1
    · have := hb.size; omega
  · exact hb.trans ⟨hT.os, hT.tape, hT.output, hT.size, fun k hk => hT.block k (by have := hb.size; omega) (fun hm => by have := hl k hm; omega)⟩

theorem St.bounds (H : St w wr Q size h fl res fv) : h ≤ fl.length ∧ fl.length ≤ 4294967296 ∧ size ≤ 99 ∧ Below w.heap.size w wr := by
  obtain ⟨S, hi, _, _, _, hb⟩ := H
  exact ⟨hi.1, hi.2.1, hi.2.2.1, hb⟩

theorem St.shape (H : St w wr Q size h fl res fv) : ∃ oa cap, fv = .slice oa fl.length cap := by
  obtain ⟨S, _, ho, _⟩ := H
  rcases ho.2 with ⟨rfl, h0⟩ | ⟨g, cap, cur, rfl, _⟩
  · exact ⟨none, 0, by rw [h0]⟩
  · exact ⟨_, cap, rfl⟩

theorem St.get (H : St w wr Q size h fl res fv) (hlt : h < fl.length) : ∃ g cap, fv = .slice (some ⟨g, 0, none⟩) fl.length cap ∧ wr.cell? ⟨g, h, none⟩ = some (.int .i64 (fl.getD h 0)) := by
  obtain ⟨S, _, ho, _⟩ := H
  rcases ho.2 with ⟨rfl, h0⟩ | ⟨g, cap, cur, rfl, _, hh, _, _, _, ht⟩
  · omega
  · refine ⟨g, cap, rfl, ?_⟩
    have e : (cur.toList.take (fl.length * 1))[h]? = (fl.map (Value.int .i64))[h]? := by rw [ht]
    rw [List.getElem?_take, if_pos (by omega)] at e
    simp only [World.cell?, hh]
    simp only [List.getElem?_map, List.getD] at e ⊢
    rw [List.getElem?_eq_getElem hlt] at e ⊢
    simpa using e

theorem st_len (H : St w wr Q size h fl res fv) (hle : h ≤ res) (hb : res ≤ 4294967296) :
    Calls Yba.prog 12 #[.pointer (some ⟨Q, 0, none⟩)] wr fun e w' => e = .returned (.int .i64 ((res : Int) - (h : Int))) ∧ wr = w' := by
  obtain ⟨S, hi, _⟩ := H
  exact len_inv hi hle hb

theorem st_reserve (H : St w wr Q size h fl fl.length fv) :
    Calls Yba.prog 13 #[.pointer (some ⟨Q, 0, none⟩)] wr fun e w' => ∃ r, e = .returned (.bool r) ∧ ((r = true ∧ fl.length < h + size ∧ St w w' Q size h fl (fl.length + 1) fv) ∨ (r = false ∧ h + size ≤ fl.length ∧ St w w' Q size h fl fl.length fv)) := by
  obtain ⟨S, hi, ho, hd, hl, hb⟩ := H
  refine (reserve_inv hi).mono ?_
  rintro e w' ⟨hT, ⟨h1, rfl, h2⟩ | ⟨h1, rfl, h2⟩⟩
  · exact ⟨true, rfl, .inl ⟨rfl, h1, S, h2, st_touch (h' := 0) (res' := 0) ho hd hl hb hT (fun i hi => .inl hi)⟩⟩
  · exact ⟨false, rfl, .inr ⟨rfl, h1, S, h2, st_touch (h' := 0) (res' := 0) ho hd hl hb hT (fun i hi => .inl hi)⟩⟩

theorem st_force (H : St w wr Q size h fl fl.length fv) :
    Calls Yba.prog 17 #[.pointer (some ⟨Q, 0, none⟩)] wr fun e w' => e = .returned (.tuple #[]) ∧ St w w' Q size h fl (fl.length + 1) fv := by
  obtain ⟨S, hi, ho, hd, hl, hb⟩ := H
  refine (force_inv hi).mono ?_
  rintro e w' ⟨rfl, hT, h2⟩
  exact ⟨rfl, S, h2, st_touch (h' := 0) (res' := 0) ho hd hl hb hT (fun i hi => .inl hi)⟩

theorem st_unres (H : St w wr Q size h fl (fl.length + 1) fv) :
    Calls Yba.prog 16 #[.pointer (some ⟨Q, 0, none⟩)] wr fun e w' => e = .returned (.bool ((fl.length : Int) - (h : Int) == 0)) ∧ St w w' Q size h fl fl.length fv := by
  obtain ⟨S, hi, ho, hd, hl, hb⟩ := H
  refine (unres_inv hi).mono ?_
  rintro e w' ⟨rfl, hT, h2⟩
  exact ⟨rfl, S, h2, st_touch (h' := 0) (res' := 0) ho hd hl hb hT (fun i hi => .inl hi)⟩

theorem st_pop_yes (H : St w wr Q size h fl fl.length fv) (hlt : h < fl.length) :
    Calls Yba.prog 15 #[.pointer (some ⟨Q, 0, none⟩)] wr fun e w' => e = .returned (.tuple #[.int .i64 (fl.getD h 0), .int .u64 (h : Int), .bool true]) ∧ St w w' Q size (h + 1) fl fl.length fv := by
  obtain ⟨S, hi, ho, hd, hl, hb⟩ := H
  refine (pop_inv_yes hi hlt).mono ?_
  rintro e w' ⟨rfl, hT, h2⟩
  exact ⟨rfl, S, h2, st_touch (h' := 0) (res' := 0) ho hd hl hb hT (fun i hi => .inl hi)⟩

theorem st_pop_no (H : St w wr Q size h fl fl.length fv) (he : h = fl.length) :
    Calls Yba.prog 15 #[.pointer (some ⟨Q, 0, none⟩)] wr fun e w' => e = .returned (.tuple #[.int .i64 0, .int .u64 0, .bool false]) ∧ St w w' Q size h fl fl.length fv := by
  obtain ⟨S, hi, ho, hd, hl, hb⟩ := H
  refine (pop_inv_no hi he).mono ?_
  rintro e w' ⟨rfl, hT, h2⟩
  exact ⟨rfl, S, h2, st_touch (h' := 0) (res' := 0) ho hd hl hb hT (fun i hi => .inl hi)⟩

/-- The state between 'push' and 'append': the queue is one ahead of the list. -/
def Sp (w wr : World) (Q size h : Nat) (fl : List Int) (x : Int) (fv : Value) : Prop :=
  ∃ S, Inv wr Q size h (fl ++ [x]) (fl.length + 1) S ∧ wr.ownsRow w.heap.size 3 1 fv fl.length (fl.map (Value.int .i64)) ∧ (∀ i, i ∈ S → some i ≠ fv.ownBlock) ∧ (∀ i, i ∈ S → w.heap.size ≤ i) ∧ Below w.heap.size w wr

theorem st_push (PG : GrowSaid) (x : Int) (H : St w wr Q size h fl (fl.length + 1) fv) (hlt : fl.length < h + size) (hbd : fl.length < 4294967296) :
    Calls Yba.prog 14 #[.pointer (some ⟨Q, 0, none⟩), .int .i64 x] wr fun e w' => e = .returned (.tuple #[]) ∧ Sp w w' Q size h fl x fv := by
  obtain ⟨S, hi, ho, hd, hl, hb⟩ := H
  refine (push_inv PG x hi hlt hbd).mono ?_
  rintro e w' ⟨rfl, hT, S', h2, hS⟩
  exact ⟨rfl, S', h2, st_touch (h' := 0) (res' := 0) ho hd hl hb hT hS⟩

theorem St.alloc (H : St w wr Q size h fl res fv) (o : Obj) : St w (wr.alloc o) Q size h fl res fv := by
  obtain ⟨S, hi, ho, hd, hl, hb⟩ := H
  have hT : Touch S wr (wr.alloc o) := (Touch.refl _ _).alloc o
  exact ⟨S, hi.of_blocks (fun i hm => Below.heap_alloc _ _ _ (hi.lt i hm)), st_touch (h' := 0) (res' := 0) ho hd hl hb hT (fun i hi => .inl hi)⟩

theorem Sp.append {x : Int} {o : Obj} {w2 : World} {v' : Value} (H : Sp w wr Q size h fl x fv) (hown : w2.ownsRow w.heap.size 3 1 v' (fl.length + 1) (fl.map (Value.int .i64) ++ [.int .i64 x])) (hg : (wr.alloc o).grownBy w2 fv.ownBlock) (hb' : v'.ownBlock = fv.ownBlock ∨ v'.ownBlock = some (wr.alloc o).heap.size) :
    St w w2 Q size h (fl ++ [x]) (fl ++ [x]).length v' := by
  obtain ⟨S, hi, ho, hd, hl, hb⟩ := H
  have hlen : (fl ++ [x]).length = fl.length + 1 := by simp
  have hsz : (wr.alloc o).heap.size = wr.heap.size + 1 := by simp
  refine ⟨S, ?_, ?_, ?_, hl, ?_⟩
  · rw [hlen]
    refine hi.of_blocks fun i hm => ?_
    rw [hg.block i (by have := hi.lt i hm; omega) (hd i hm)]
    exact Below.heap_alloc _ _ _ (hi.lt i hm)
  · rw [hlen, List.map_append]; exact hown
  · intro i hm
    rcases hb' with e | e
    · rw [e]; exact hd i hm
    · rw [e]; have := hi.lt i hm; simp only [ne_eq, Option.some.injEq]; omega
  · refine (hb.alloc hb.size o).grown hg (by have := hb.size; omega) ?_
    intro k hk
    rcases ho.2 with ⟨rfl, _⟩ | ⟨g, cap, cur, rfl, hgg, _⟩
    · simp [Value.ownBlock] at hk
    · simp only [Value.ownBlock, Option.some.injEq] at hk; omega

theorem st_start {S : List Nat} {w1 : World} (hi : Inv w1 Q size 0 [] 0 S) (hl : ∀ i, i ∈ S → w.heap.size ≤ i) (hT : Touch [] w w1) : St w w1 Q size 0 [] 0 (.slice none 0 0) :=
  ⟨S, hi, World.ownsRow_nil _ _ _ _, fun i _ => by simp [Value.ownBlock], hl, ⟨hT.os, hT.tape, hT.output, hT.size, fun k hk => hT.block k hk (by simp)⟩⟩
end
end Go.Proofs.Ybulkeca
