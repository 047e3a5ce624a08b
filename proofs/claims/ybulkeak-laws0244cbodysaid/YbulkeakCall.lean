import Derived.Test.YbulkeakRows
import Derived.WalkKit
import Derived.WalkSpells
import Derived.WalkLawsBesides
import Derived.Outline
import Derived.MapKept
import Derived.Maps.Own
import Derived.WideMake
set_option linter.unusedVariables false
namespace Go.Proofs.Ybulkeak
open Go.RowKit

theorem hide {p : Prop} (h : p) : Hid p := h

/-- The entry 'key' laid into a new map. -/
theorem put_first {W : World} {r : Nat} (v : Value) (hb : W.heap[r]? = some (.map #[] 0)) : ∃ w4, (Instr.mapUpdate 24 (.map (some r)) (.string { data := #[107, 101, 121] }) v).run Yba.prog W = .ok () w4 ∧ w4.heap[r]? = some (.map #[⟨.string { data := #[107, 101, 121] }, v, 0⟩] 1) ∧
    (∀ i, i ≠ r → w4.heap[i]? = W.heap[i]?) ∧ w4.heap.size = W.heap.size ∧ ∀ B, B ≤ r → Below B W w4 := by
  refine ⟨_, run_mapUpdate_first W 24 9 28 r 0 _ v Yba.underlying24 Yba.underlying9 hb, (MapKept.heap_set hb).1, (MapKept.heap_set hb).2, by simp, fun B hB => ⟨rfl, rfl, rfl, by simp, fun k hk => (MapKept.heap_set hb).2 k (by omega)⟩⟩

def zero26 : Array Value := #[.string { data := #[] }, .string { data := #[] }, .map none, .slice none 0 0, .string { data := #[] }, .int .i64 0]

theorem world3 (w : World) (k : ByteArray) : (((w.alloc (.cells zero26 26)).alloc (.map #[] 0)).alloc (.cells #[.string k] 9)).heap[w.heap.size + 1]? = some (.map #[] 0) ∧
    (((w.alloc (.cells zero26 26)).alloc (.map #[] 0)).alloc (.cells #[.string k] 9)).heap[w.heap.size]? = some (.cells zero26 26) ∧
    (((w.alloc (.cells zero26 26)).alloc (.map #[] 0)).alloc (.cells #[.string k] 9)).heap[w.heap.size + 2]? = some (.cells #[.string k] 9) := by
  refine ⟨?_, ?_, ?_⟩
  · rw [Below.heap_alloc _ _ _ (by simp)]; have := (MapKept.heap_alloc (w.alloc (.cells zero26 26)) (.map #[] 0)).1; simpa using this
  · rw [Below.heap_alloc _ _ _ (by simp; omega), Below.heap_alloc _ _ _ (by simp)]; exact (MapKept.heap_alloc w _).1
  · have := (MapKept.heap_alloc ((w.alloc (.cells zero26 26)).alloc (.map #[] 0)) (.cells #[.string k] 9)).1; simpa using this

theorem six_heap {w4 : World} {b : Nat} {x0 x1 x2 x3 x4 x5 : Value} {o : Obj} {i : Nat} (hi : i ≠ b) (hs : i < w4.heap.size) :
    (((((((w4.setCell ⟨b, 0, none⟩ x0).setCell ⟨b, 1, none⟩ x1).setCell ⟨b, 2, none⟩ x2).setCell ⟨b, 3, none⟩ x3).setCell ⟨b, 4, none⟩ x4).setCell ⟨b, 5, none⟩ x5).alloc o).heap[i]? = w4.heap[i]? := by
  rw [Below.heap_alloc _ _ _ (by simpa [World.setCell] using hs), Below.heap_setCell _ _ _ _ hi, Below.heap_setCell _ _ _ _ hi, Below.heap_setCell _ _ _ _ hi, Below.heap_setCell _ _ _ _ hi, Below.heap_setCell _ _ _ _ hi, Below.heap_setCell _ _ _ _ hi]

theorem six_below {w w4 : World} {b : Nat} {x0 x1 x2 x3 x4 x5 : Value} {o : Obj} (h : Below b w w4) (hs : b ≤ w4.heap.size) :
    Below b w (((((((w4.setCell ⟨b, 0, none⟩ x0).setCell ⟨b, 1, none⟩ x1).setCell ⟨b, 2, none⟩ x2).setCell ⟨b, 3, none⟩ x3).setCell ⟨b, 4, none⟩ x4).setCell ⟨b, 5, none⟩ x5).alloc o) :=
  ((((((h.setCell (p := ⟨b, 0, none⟩) (Nat.le_refl _) _).setCell (p := ⟨b, 1, none⟩) (Nat.le_refl _) _).setCell (p := ⟨b, 2, none⟩) (Nat.le_refl _) _).setCell (p := ⟨b, 3, none⟩) (Nat.le_refl _) _).setCell (p := ⟨b, 4, none⟩) (Nat.le_refl _) _).setCell (p := ⟨b, 5, none⟩) (Nat.le_refl _) _).alloc (by simpa [World.setCell] using hs) o

set_option maxRecDepth 100000 in
theorem call_some (m p k : ByteArray) (a : Addr) (n c : Nat) (w : World) :
    Calls Yba.prog 5 #[.string m, .string p, .string k, .slice (some a) n c] w fun e w' => e = .returned (.agg #[.string m, .string p, .map (some (w.heap.size + 1)), .slice (some a) n c, .string { data := #[97, 112, 112, 108, 105, 99, 97, 116, 105, 111, 110, 47, 111, 99, 116, 101, 116, 45, 115, 116, 114, 101, 97, 109] }, .int .i64 4194304]) ∧
      w'.heap[w.heap.size + 1]? = some (.map #[⟨.string { data := #[107, 101, 121] }, .slice (some ⟨w.heap.size + 2, 0, none⟩) 1 1, 0⟩] 1) ∧ w'.cell? ⟨w.heap.size + 2, 0, none⟩ = some (.string k) ∧ Below w.heap.size w w' := by
  have hmm := @run_makeMap Yba.prog
  obtain ⟨h1, h0, h2⟩ := world3 w k
  obtain ⟨w4, hput, e1, eo, es, hbel⟩ := put_first (.slice (some ⟨w.heap.size + 1 + 1, 0, none⟩) 1 1) h1
  have b3 : Below w.heap.size w (((w.alloc (.cells zero26 26)).alloc (.map #[] 0)).alloc (.cells #[.string k] 9)) := (((Below.refl _ _).alloc (Nat.le_refl _) _).alloc (by simp) _).alloc (by simp; omega) _
  have B4 := hide (b3.trans (hbel w.heap.size (by omega)))
  have e0 := (eo w.heap.size (by omega)).trans h0
  have e2 := (eo (w.heap.size + 2) (by omega)).trans h2
  have HE1 := hide e1
  have HE2 := hide e2
  have c0 : w4.cell? ⟨w.heap.size, 0, none⟩ = some (.string { data := #[] }) := by simp [World.cell?, e0, zero26]
  have c1 : w4.cell? ⟨w.heap.size, 1, none⟩ = some (.string { data := #[] }) := by simp [World.cell?, e0, zero26]
  have c2 : w4.cell? ⟨w.heap.size, 2, none⟩ = some (.map none) := by simp [World.cell?, e0, zero26]
  have c3 : w4.cell? ⟨w.heap.size, 3, none⟩ = some (.slice none 0 0) := by simp [World.cell?, e0, zero26]
  have c4 : w4.cell? ⟨w.heap.size, 4, none⟩ = some (.string { data := #[] }) := by simp [World.cell?, e0, zero26]
  have c5 : w4.cell? ⟨w.heap.size, 5, none⟩ = some (.int .i64 0) := by simp [World.cell?, e0, zero26]
  have fz : ∀ o, w4.frozen? ⟨w.heap.size, o, none⟩ = false := by intro o; simp [World.frozen?, e0]
  have hlt : w.heap.size < w4.heap.size := by rw [es]; simp; omega
  have hlt2 : w.heap.size + 2 < w4.heap.size := by rw [es]; simp
  unfold zero26 at hput
  clear h1 h0 h2 e1 eo es hbel b3 e0 e2
  go_enter Yba.func5, Yba.ntmps5
  go_wp2
  refine bodyPost_ret (v := .agg #[.string m, .string p, .map (some (w.heap.size + 1)), .slice (some a) n c, .string { data := #[97, 112, 112, 108, 105, 99, 97, 116, 105, 111, 110, 47, 111, 99, 116, 101, 116, 45, 115, 116, 114, 101, 97, 109] }, .int .i64 4194304]) (by simp [results, Yba.results5, go_sem, c0, c1, c2, c3, c4, c5, hlt]) rfl ⟨rfl, ?_, ?_, ?_⟩
  · rw [six_heap (by omega) (by omega)]; exact HE1.out
  · have e := (six_heap (w4 := w4) (b := w.heap.size) (i := w.heap.size + 2) (x0 := .string m) (x1 := .string p) (x2 := .map (some (w.heap.size + 1))) (x3 := .slice (some a) n c) (x4 := .string { data := #[97, 112, 112, 108, 105, 99, 97, 116, 105, 111, 110, 47, 111, 99, 116, 101, 116, 45, 115, 116, 114, 101, 97, 109] }) (x5 := .int .i64 4194304) (o := .cells #[.string m, .string p, .map (some (w.heap.size + 1)), .slice (some a) n c, .string { data := #[97, 112, 112, 108, 105, 99, 97, 116, 105, 111, 110, 47, 111, 99, 116, 101, 116, 45, 115, 116, 114, 101, 97, 109] }, .int .i64 4194304] 26) (by omega) (by omega)).trans HE2.out
    simp only [World.cell?, e]
    rfl
  · exact six_below B4.out (by omega)
set_option maxRecDepth 100000 in
theorem call_nil (m p k : ByteArray) (w : World) :
    Calls Yba.prog 5 #[.string m, .string p, .string k, .slice none 0 0] w fun e w' => e = .returned (.agg #[.string m, .string p, .map (some (w.heap.size + 1)), .slice none 0 0, .string { data := #[] }, .int .i64 4194304]) ∧
      w'.heap[w.heap.size + 1]? = some (.map #[⟨.string { data := #[107, 101, 121] }, .slice (some ⟨w.heap.size + 2, 0, none⟩) 1 1, 0⟩] 1) ∧ w'.cell? ⟨w.heap.size + 2, 0, none⟩ = some (.string k) ∧ Below w.heap.size w w' := by
  have hmm := @run_makeMap Yba.prog
  obtain ⟨h1, h0, h2⟩ := world3 w k
  obtain ⟨w4, hput, e1, eo, es, hbel⟩ := put_first (.slice (some ⟨w.heap.size + 1 + 1, 0, none⟩) 1 1) h1
  have b3 : Below w.heap.size w (((w.alloc (.cells zero26 26)).alloc (.map #[] 0)).alloc (.cells #[.string k] 9)) := (((Below.refl _ _).alloc (Nat.le_refl _) _).alloc (by simp) _).alloc (by simp; omega) _
  have B4 := hide (b3.trans (hbel w.heap.size (by omega)))
  have e0 := (eo w.heap.size (by omega)).trans h0
  have e2 := (eo (w.heap.size + 2) (by omega)).trans h2
  have HE1 := hide e1
  have HE2 := hide e2
  have c0 : w4.cell? ⟨w.heap.size, 0, none⟩ = some (.string { data := #[] }) := by simp [World.cell?, e0, zero26]
  have c1 : w4.cell? ⟨w.heap.size, 1, none⟩ = some (.string { data := #[] }) := by simp [World.cell?, e0, zero26]
  have c2 : w4.cell? ⟨w.heap.size, 2, none⟩ = some (.map none) := by simp [World.cell?, e0, zero26]
  have c3 : w4.cell? ⟨w.heap.size, 3, none⟩ = some (.slice none 0 0) := by simp [World.cell?, e0, zero26]
  have c4 : w4.cell? ⟨w.heap.size, 4, none⟩ = some (.string { data := #[] }) := by simp [World.cell?, e0, zero26]
  have c5 : w4.cell? ⟨w.heap.size, 5, none⟩ = some (.int .i64 0) := by simp [World.cell?, e0, zero26]
  have fz : ∀ o, w4.frozen? ⟨w.heap.size, o, none⟩ = false := by intro o; simp [World.frozen?, e0]
  have hlt : w.heap.size < w4.heap.size := by rw [es]; simp; omega
  have hlt2 : w.heap.size + 2 < w4.heap.size := by rw [es]; simp
  unfold zero26 at hput
  clear h1 h0 h2 e1 eo es hbel b3 e0 e2
  go_enter Yba.func5, Yba.ntmps5
  go_wp2
  refine bodyPost_ret (v := .agg #[.string m, .string p, .map (some (w.heap.size + 1)), .slice none 0 0, .string { data := #[] }, .int .i64 4194304]) (by simp [results, Yba.results5, go_sem, c0, c1, c2, c3, c4, c5, hlt]) rfl ⟨rfl, ?_, ?_, ?_⟩
  · rw [six_heap (by omega) (by omega)]; exact HE1.out
  · have e := (six_heap (w4 := w4) (b := w.heap.size) (i := w.heap.size + 2) (x0 := .string m) (x1 := .string p) (x2 := .map (some (w.heap.size + 1))) (x3 := .slice none 0 0) (x4 := .string { data := #[] }) (x5 := .int .i64 4194304) (o := .cells #[.string m, .string p, .map (some (w.heap.size + 1)), .slice none 0 0, .string { data := #[] }, .int .i64 4194304] 26) (by omega) (by omega)).trans HE2.out
    simp only [World.cell?, e]
    rfl
  · exact six_below B4.out (by omega)

end Go.Proofs.Ybulkeak
