import Derived.Test.YbulkecaAway
import Derived.Maps.AppendAt
import Derived.Laws.CopyOwn
import Derived.Lib.SliceRun
import Derived.Deep.RegionLaw
set_option linter.unusedVariables false
namespace Go.Proofs.Ybulkeca
open Go.RowKit

/-- Nothing but the block g has turned. -/
structure Only (g : Nat) (w w' : World) : Prop where
  other : ∀ i, i ≠ g → w'.heap[i]? = w.heap[i]?
  size : w'.heap.size = w.heap.size
  os : w'.os = w.os
  tape : w'.tape = w.tape
  output : w'.output = w.output

theorem Only.refl (g : Nat) (w : World) : Only g w w := ⟨fun _ _ => rfl, rfl, rfl, rfl, rfl⟩
theorem Only.setRow (g : Nat) (w : World) (cs : Array Value) : Only g w (w.setRow g cs) := ⟨fun i hi => setRow_other w g i cs hi, by simp, rfl, rfl, rfl⟩
theorem Only.setCell (g o : Nat) (w : World) (v : Value) : Only g w (w.setCell ⟨g, o, none⟩ v) := ⟨fun i hi => Below.heap_setCell _ _ _ _ hi, by simp [World.setCell], rfl, rfl, rfl⟩
theorem Only.trans {g : Nat} {a b c : World} (h : Only g a b) (k : Only g b c) : Only g a c :=
  ⟨fun i hi => (k.other i hi).trans (h.other i hi), k.size.trans h.size, k.os.trans h.os, k.tape.trans h.tape, k.output.trans h.output⟩
theorem Only.below {g B : Nat} {w w' : World} (h : Only g w w') (hg : B ≤ g) : Below B w w' := ⟨h.os, h.tape, h.output, Nat.le_of_eq h.size.symm, fun k hk => h.other k (by omega)⟩
theorem Only.cell {g : Nat} {w w' : World} (h : Only g w w') {b o : Nat} (hb : b ≠ g) : w'.cell? ⟨b, o, none⟩ = w.cell? ⟨b, o, none⟩ := World.cell?_of_block (h.other b hb)
theorem Only.frozen {g : Nat} {w w' : World} (h : Only g w w') {b o : Nat} (hb : b ≠ g) : w'.frozen? ⟨b, o, none⟩ = w.frozen? ⟨b, o, none⟩ := World.frozen?_of_block (h.other b hb)

theorem step_copy_only {P : Program} {ops : Array Oper} {o : Oper} {a : Act} {w : World} {K : Act → World → Prop} {Q : Exit → Act → World → Prop} {E : Prop} (hgd : o.guard = none) (d s : Operand) (dT sT : TypeId)
    (ho : o.op = .call { callee := .builtin .copy, args := #[d, s], argTypes := #[dT, sT] }) (elem : TypeId) (hu : P.underlying dT = some (.slice elem)) (hsz : (P.info? elem).map (·.size) = some 1)
    (dp sp : Option Addr) (dLen dCap sLen sCap : Nat) (hd : a.eval d = .slice dp dLen dCap) (hs : a.eval s = .slice sp sLen sCap)
    (g off : Nat) (cur : List Value) (t : TypeId) (cs : List Value) (hn : cs.length = Nat.min sLen dLen) (w0 : World) (hb : Only g w0 w)
    (hg : w.heap[g]? = some (.cells cur.toArray t (0, 0)))
    (hpos : 0 < cs.length → dp = some ⟨g, off, none⟩ ∧ ∃ ad, sp = some ad ∧ ∀ j v, cs[j]? = some v → w.cell? (ad.add j) = some v)
    (hfit : off + cs.length ≤ cur.length) (h1 : ∀ v ∈ cs, v.oneCell' = true)
    (h : ∀ w', Hid (w'.heap[g]? = some (.cells (splice cur off cs).toArray t (0, 0))) → Only g w0 w' → K (a.put o.dst (goInt cs.length)) w') :
    if Region.wanted o (yielded ops a.tmps) = true then Oper.wp P o a w K Q else E := by
  have hw : Region.wanted o (yielded ops a.tmps) = true := by simp [Region.wanted, hgd]
  rw [if_pos hw]
  by_cases h0 : cs.length = 0
  · obtain rfl : cs = [] := List.eq_nil_of_length_eq_zero h0
    have hrun := run_copy_none (P := P) w dT sT o.type elem dp sp dLen dCap sLen sCap hu hsz (by simpa using hn.symm)
    unfold Oper.wp
    simp [execOp, ho, resolve, invoke, builtin, hd, hs, hrun, Result.andThen]
    exact h w (show _ = _ by simpa [splice] using hg) hb
  · obtain ⟨rfl, ad, rfl, hsrc⟩ := hpos (by omega)
    have hrun := run_copy_row (P := P) w dT sT o.type elem g off dLen dCap ad sLen sCap cur.toArray t cs hu hsz hg hn hsrc (by simpa using hfit) h1
    unfold Oper.wp
    simp [execOp, ho, resolve, invoke, builtin, hd, hs, hrun, Result.andThen]
    exact h _ (show _ = _ by simpa [splice] using setRow_heap w g _ _ t _ hg) (hb.trans (Only.setRow g _ _))

theorem setCells_only (b : Nat) : ∀ (vs : List Value) (o : Nat) (w : World), Only b w (w.setCells b o vs)
  | [], _, w => Only.refl _ _
  | v :: r, o, w => (Only.setCell b o w v).trans (setCells_only b r (o + 1) _)

theorem setCells_row (b : Nat) (t : TypeId) : ∀ (vs : List Value) (o : Nat) (w : World) (cur : List Value), w.heap[b]? = some (.cells cur.toArray t (0, 0)) → o + vs.length ≤ cur.length →
    (w.setCells b o vs).heap[b]? = some (.cells (splice cur o vs).toArray t (0, 0))
  | [], o, w, cur, h, hl => by simpa [splice, World.setCells] using h
  | v :: r, o, w, cur, h, hl => by
    have h2 : (w.setCell ⟨b, o, none⟩ v).heap[b]? = some (.cells (cur.set o v).toArray t (0, 0)) := by
      rw [setCell_eq_setRow w b o cur.toArray t (0, 0) v h, setRow_heap w b _ _ t _ h]
      simp
    have h3 := setCells_row b t r (o + 1) _ _ h2 (by simp at hl ⊢; omega)
    show ((w.setCell ⟨b, o, none⟩ v).setCells b (o + 1) r).heap[b]? = _
    rw [h3]
    congr 2
    have : o < cur.length := by simp at hl; omega
    have e1 : (cur.set o v).take (o + 1) = cur.take o ++ [v] := by
      rw [List.take_add_one]
      simp [this, List.take_set]
      exact List.set_eq_of_length_le (by simp; omega)
    simp only [splice, e1, List.length_cons]
    rw [List.drop_set_of_lt (by omega), show o + 1 + r.length = o + (r.length + 1) by omega]
    simp

theorem clear_only {w : World} (ty : TypeId) (n g off : Nat) (cur : List Value) (t : TypeId) (hg : w.heap[g]? = some (.cells cur.toArray t (0, 0))) (hfit : off + n ≤ cur.length) :
    ∃ w', (∀ sp c, (0 < n → sp = some ⟨g, off, none⟩) → (Builtin.clear_ #[69] ty #[.slice sp n c]).run Yba.prog w = .ok (.tuple #[]) w') ∧ w'.heap[g]? = some (.cells (splice cur off (List.replicate n (.pointer none))).toArray t (0, 0)) ∧ Only g w w' := by
  by_cases h0 : n = 0
  · subst h0
    refine ⟨w, fun sp c _ => ?_, by simpa [splice] using hg, Only.refl _ _⟩
    cases sp <;> simp [Builtin.clear_, run_underlying Yba.underlying69]
  · have hcell : ∀ j, j < n → w.cell? ⟨g, off + j, none⟩ = some (cur.getD (off + j) undef) := fun j hj => by
      simp [World.cell?, hg, show off + j < cur.length by omega, List.getD]
    refine ⟨_, fun sp c hsp => ?_, setCells_row g t (List.replicate n (.pointer none)) off w cur hg (by simpa using hfit), setCells_only g _ _ _⟩
    rw [hsp (by omega)]
    exact Lib.run_clear_slice (P := Yba.prog) w 69 72 ty (.pointer none) Yba.underlying69 (fun w => by kernel_rfl) (by rfl) (by rfl) g off n c (by omega) (fun j hj => by rw [hcell j hj]; rfl)
      (fun j hj => by simp [World.frozen?, hg])
end Go.Proofs.Ybulkeca
