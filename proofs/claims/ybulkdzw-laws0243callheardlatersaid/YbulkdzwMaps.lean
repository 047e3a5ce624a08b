import Derived.Test.YbulkdzwName
import Derived.MapKept
import Derived.Maps.Own
namespace Go.Proofs.Ybulkdzw
open Go.RowKit Go.MapKept

/-- What a string finds among a map's entries: nothing, or an element's value. -/
def look (es : Array MapEntry) (s : ByteArray) : Option (Option Value) := (Instr.findNow .string (.string s) es.toList 0).map (fun r => r.map (·.2))

theorem look_nil (s : ByteArray) : look #[] s = some none := rfl

theorem look_find {es : Array MapEntry} {s : ByteArray} {x : Option Value} (h : look es s = some x) : ∃ r, Instr.findNow .string (.string s) es.toList 0 = some r ∧ r.map (·.2) = x := by
  unfold look at h
  cases hf : Instr.findNow .string (.string s) es.toList 0 with
  | none => rw [hf] at h; cases h
  | some r => rw [hf] at h; simp at h; exact ⟨r, rfl, h⟩

theorem run_look {P : Program} {w : World} {t k e : TypeId} {r clock : Nat} {es : Array MapEntry} {s : ByteArray} {x : Option Value} {z : Value} (ht : P.underlying t = some (.map k e)) (hk : P.underlying k = some .string)
    (hb : w.heap[r]? = some (.map es clock)) (hx : look es s = some x) (hz : (zeroValue e).run P w = .ok z w) : (Instr.lookup t (.map (some r)) (.string s) false).run P w = .ok (x.getD z) w := by
  obtain ⟨f, hf, rfl⟩ := look_find hx
  have hc : (Instr.checkKey es.isEmpty 10000 k (.string s)).run P w = .ok () w := run_checkKey (k := .string s) hk (by simp [IsKey]) _ 9999
  cases f with
  | none => simp [Instr.lookup, run_underlying ht, MapKept.run_getObj_map hb, hc, run_findKey hk hf, Result.andThen, hz]
  | some f => simp [Instr.lookup, run_underlying ht, MapKept.run_getObj_map hb, hc, run_findKey hk hf, Result.andThen]

theorem run_put {P : Program} {w : World} {t k e : TypeId} {r clock : Nat} {es : Array MapEntry} {s : ByteArray} {v : Value} (ht : P.underlying t = some (.map k e)) (hk : P.underlying k = some .string)
    (hb : w.heap[r]? = some (.map es clock)) (hx : look es s = some none) : (Instr.mapUpdate t (.map (some r)) (.string s) v).run P w = .ok () { w with heap := w.heap.setIfInBounds r (.map (es.push ⟨.string s, v, clock⟩) (clock + 1)) } := by
  obtain ⟨f, hf, hn⟩ := look_find hx
  cases f with
  | some f => cases hn
  | none =>
    have hc : (Instr.checkKey false 10000 k (.string s)).run P w = .ok () w := run_checkKey (k := .string s) hk (by simp [IsKey]) _ 9999
    simp [Instr.mapUpdate, run_underlying ht, MapKept.run_getObj_map hb, hc, run_findKey hk hf, run_setObj_map _ hb, Result.andThen]

theorem find_append (s : ByteArray) (e : MapEntry) : ∀ (l : List MapEntry) (i : Nat), Instr.findNow .string (.string s) (l ++ [e]) i =
    match Instr.findNow .string (.string s) l i with
    | some none => Instr.findNow .string (.string s) [e] (i + l.length)
    | r => r
  | [], i => by simp [Instr.findNow]
  | x :: l, i => by
    simp only [List.cons_append, Instr.findNow]
    cases h : Instr.sameNow .string (.string s) x.key with
    | none => rfl
    | some b =>
      cases b with
      | true => rfl
      | false => simp only [find_append s e l (i + 1), List.length_cons]; rw [show i + 1 + l.length = i + (l.length + 1) from by omega]; simp [Instr.findNow]

theorem look_push {es : Array MapEntry} {s s' : ByteArray} {v : Value} {c : Nat} {x : Option Value} (h : look es s' = some x) (hs : look es s = some none) :
    look (es.push ⟨.string s, v, c⟩) s' = some (if s' = s then some v else x) := by
  obtain ⟨f, hf, rfl⟩ := look_find h
  unfold look
  rw [Array.toList_push, find_append, hf]
  cases f with
  | none =>
    by_cases hss : s' = s
    · subst hss; simp [Instr.findNow, Instr.sameNow, (bytes_beq s' s').2 rfl]
    · have hne : (s' == s) = false := by
        cases hb : (s' == s) with
        | false => rfl
        | true => exact absurd ((bytes_beq s' s).1 hb) hss
      simp [Instr.findNow, Instr.sameNow, hne, hss]
  | some f =>
    have hss : s' ≠ s := by intro e; subst e; rw [h] at hs; simp at hs
    simp [hss]

theorem nm_size (i : Nat) (hi : i < 1024) : (nm i).size = 3 := by
  unfold nm Utf8.encode Utf8.valid
  have h1 : (19968 + (i : Int)).toNat = 19968 + i := by omega
  have h2 : ((decide ((0 : Int) ≤ 19968 + ↑i) && decide ((19968 : Int) + ↑i < 55296)) || (decide ((57344 : Int) ≤ 19968 + ↑i) && decide ((19968 : Int) + ↑i ≤ 1114111))) = true := by
    simp; omega
  simp only [h2, if_true, h1]
  rw [if_neg (by omega), if_neg (by omega), if_pos (by omega)]
  rfl

theorem nm_inj (i j : Nat) (hi : i < 1024) (hj : j < 1024) (h : nm i = nm j) : i = j := by
  have key : ∀ i : Nat, i < 1024 → nm i = ⟨#[UInt8.ofNat (0xE0 + (19968 + i) / 4096), UInt8.ofNat (0x80 + (19968 + i) / 64 % 64), UInt8.ofNat (0x80 + (19968 + i) % 64)]⟩ := by
    intro i hi
    unfold nm Utf8.encode Utf8.valid
    have h1 : (19968 + (i : Int)).toNat = 19968 + i := by omega
    have h2 : ((decide ((0 : Int) ≤ 19968 + ↑i) && decide ((19968 : Int) + ↑i < 55296)) || (decide ((57344 : Int) ≤ 19968 + ↑i) && decide ((19968 : Int) + ↑i ≤ 1114111))) = true := by
      simp; omega
    simp only [h2, if_true, h1]
    rw [if_neg (by omega), if_neg (by omega), if_pos (by omega)]
  rw [key i hi, key j hj] at h
  simp only [ByteArray.mk.injEq, Array.mk.injEq, List.cons.injEq, and_true] at h
  obtain ⟨h1, h2, h3⟩ := h
  have e1 := congrArg UInt8.toNat h1
  have e2 := congrArg UInt8.toNat h2
  have e3 := congrArg UInt8.toNat h3
  simp only [UInt8.toNat_ofNat'] at e1 e2 e3
  omega
end Go.Proofs.Ybulkdzw
