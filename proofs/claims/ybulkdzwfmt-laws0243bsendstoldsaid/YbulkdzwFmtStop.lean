import Derived.Test.YbulkdzwFmtErr
import Derived.Deep.DeepCutAuto
import Derived.MapKept
import Derived.Conc.EventLaws
set_option linter.unusedVariables false
namespace Go.Proofs.YbulkdzwFmt
open Go.RowKit Go.Extern.Stop Go.Stop Go.Extern

/-- The law's process: its cells, as far as anything reads them. -/
def procCells (v tr q h g : Value) (sc : Nat) (er : Value) : Array Value :=
  #[.int .i32 0, .int .u32 0, .string { data := #[109, 101] }, v, .nilIface, tr, q, h, .bool false, g, .chan (some sc), er]

/-- A store into a block of cells. -/
theorem heap_store {w : World} {b o : Nat} {cur : Array Value} {e : TypeId} {fz : Nat × Nat} (h : w.heap[b]? = some (.cells cur e fz)) (x : Value) : (w.setCell ⟨b, o, none⟩ x).heap[b]? = some (.cells (cur.setIfInBounds o x) e fz) := by
  simp only [World.setCell, Array.getElem?_modify, if_true, h]
  rfl

/-- 'close' of an open channel. -/
theorem close_open {W : World} {sc : Nat} (ats : Array TypeId) (ty : TypeId) (h : W.heap[sc]? = some (.chan 0 #[] false 0 0 false)) :
    ∃ W', (Builtin.close_ ats ty #[.chan (some sc)]).run Ybaf.prog W = .ok (.tuple #[]) W' ∧ (∀ i, i ≠ sc → W'.heap[i]? = W.heap[i]?) ∧ W'.heap.size = W.heap.size ∧ W'.os = W.os ∧ W'.tape = W.tape ∧ W'.output = W.output := by
  refine ⟨{ W with heap := W.heap.setIfInBounds sc (.chan 0 #[] true 0 0 false) }, ?_, fun i hi => ?_, by simp, rfl, rfl, rfl⟩
  · exact run_close_open ats ty h
  · exact (MapKept.heap_set h).2 i hi

set_option maxRecDepth 100000 in
theorem stop_any (F : Interp) (p sc : Nat) (v tr q h g : Value) (ea : Addr) (s : ByteArray) (w : World) (hF : F.answers w.tape) (hp : w.heap[p]? = some (.cells (procCells v tr q h g sc .nilIface) 49 (0, 0)))
    (hsc : w.heap[sc]? = some (.chan 0 #[] false 0 0 false)) (hs : w.cell? ea = some (.string s)) (hea : ea.block < w.heap.size) :
    Calls Ybaf.prog 8 #[.pointer (some ⟨p, 0, none⟩), .iface 62 (.pointer (some ea))] w fun e w' =>
      ∃ eb, e = .returned (.iface 85 (.pointer (some ⟨eb, 0, none⟩))) ∧ w'.cell? ⟨p, 11, none⟩ = some (.iface 85 (.pointer (some ⟨eb, 0, none⟩))) ∧ w'.cell? ⟨eb, 1, none⟩ = some (.iface 62 (.pointer (some ea))) ∧
        (∀ i, i < w.heap.size → i ≠ p → i ≠ sc → w'.heap[i]? = w.heap[i]?) ∧ w.heap.size ≤ w'.heap.size ∧ w'.os = w.os ∧ w'.tape = w.tape ∧ w'.output = w.output := by
  have hpl : p < w.heap.size := (Array.getElem?_eq_some_iff.1 hp).1
  have hscl : sc < w.heap.size := (Array.getElem?_eq_some_iff.1 hsc).1
  have hne : p ≠ sc := by intro e; rw [e, hsc] at hp; cases hp
  have c2 : w.cell? ⟨p, 2, none⟩ = some (.string { data := #[109, 101] }) := by simp [World.cell?, hp, procCells]
  have c10 : w.cell? ⟨p, 10, none⟩ = some (.chan (some sc)) := by simp [World.cell?, hp, procCells]
  have c11 : w.cell? ⟨p, 11, none⟩ = some .nilIface := by simp [World.cell?, hp, procCells]
  have f11 : w.frozen? ⟨p, 11, none⟩ = false := by simp [World.frozen?, hp]
  have HE := hide (errorf_any F { data := #[109, 101] } s ea w.heap.size (w.alloc (.cells #[.iface 9 (.string { data := #[109, 101] }), .iface 62 (.pointer (some ea))] 20)) hF (by simp) (by simp) ((World.cell?_of_block (Below.heap_alloc _ _ _ hea)).trans hs))
  have HP := hide hp
  have HSC := hide hsc
  clear hp hsc hs hF
  go_enter Ybaf.func8, Ybaf.ntmps8
  go_upto_region 2 with (go_at_call 11; refine Calls.mono HE.out ?_; rintro e w' ⟨rfl, txt, rfl⟩)
  generalize hW2 : (((w.setCell { block := p, off := 11 } (Value.iface 85 (Value.pointer (some { block := w.heap.size + 1, off := 0 })))).alloc (Obj.cells #[Value.iface 9 (Value.string { data := #[109, 101] }), Value.iface 62 (Value.pointer (some ea))] 20)).alloc
    (Obj.cells #[Value.string txt, Value.iface 62 (Value.pointer (some ea))] 118)).drew = W2
  have hsz : W2.heap.size = w.heap.size + 2 := by rw [← hW2]; simp [World.setCell]
  have hos : W2.os = w.os ∧ W2.tape = w.tape ∧ W2.output = w.output := by rw [← hW2]; exact ⟨rfl, rfl, rfl⟩
  have hoth : ∀ i, i < w.heap.size → i ≠ p → W2.heap[i]? = w.heap[i]? := by
    intro i hi hip
    rw [← hW2]
    show (((w.setCell { block := p, off := 11 } (Value.iface 85 (Value.pointer (some { block := w.heap.size + 1, off := 0 })))).alloc (Obj.cells #[Value.iface 9 (Value.string { data := #[109, 101] }), Value.iface 62 (Value.pointer (some ea))] 20)).alloc (Obj.cells #[Value.string txt, Value.iface 62 (Value.pointer (some ea))] 118)).heap[i]? = _
    rw [Below.heap_alloc _ _ _ (by simp [World.setCell]; omega), Below.heap_alloc _ _ _ (by simp [World.setCell]; omega), Below.heap_setCell _ _ _ _ hip]
  have hbp : W2.heap[p]? = some (.cells ((procCells v tr q h g sc .nilIface).setIfInBounds 11 (.iface 85 (.pointer (some ⟨w.heap.size + 1, 0, none⟩)))) 49 (0, 0)) := by
    rw [← hW2]
    show (((w.setCell { block := p, off := 11 } (Value.iface 85 (Value.pointer (some { block := w.heap.size + 1, off := 0 })))).alloc (Obj.cells #[Value.iface 9 (Value.string { data := #[109, 101] }), Value.iface 62 (Value.pointer (some ea))] 20)).alloc (Obj.cells #[Value.string txt, Value.iface 62 (Value.pointer (some ea))] 118)).heap[p]? = _
    rw [Below.heap_alloc _ _ _ (by simp [World.setCell]; omega), Below.heap_alloc _ _ _ (by simp [World.setCell]; omega)]
    exact heap_store HP.out _
  have hbe : W2.heap[w.heap.size + 1]? = some (.cells #[.string txt, .iface 62 (.pointer (some ea))] 118 (0, 0)) := by
    rw [← hW2]
    have := (MapKept.heap_alloc ((w.setCell { block := p, off := 11 } (Value.iface 85 (Value.pointer (some { block := w.heap.size + 1, off := 0 })))).alloc (Obj.cells #[Value.iface 9 (Value.string { data := #[109, 101] }), Value.iface 62 (Value.pointer (some ea))] 20)) (Obj.cells #[Value.string txt, Value.iface 62 (Value.pointer (some ea))] 118)).1
    have e : ((w.setCell { block := p, off := 11 } (Value.iface 85 (Value.pointer (some { block := w.heap.size + 1, off := 0 })))).alloc (Obj.cells #[Value.iface 9 (Value.string { data := #[109, 101] }), Value.iface 62 (Value.pointer (some ea))] 20)).heap.size = w.heap.size + 1 := by simp [World.setCell]
    rw [e] at this
    exact this
  have d10 : W2.cell? ⟨p, 10, none⟩ = some (.chan (some sc)) := by simp [World.cell?, hbp, procCells]
  obtain ⟨W3, hcl, ho3, hs3, q1, q2, q3⟩ := close_open (W := W2) #[36] 0 ((hoth sc hscl (Ne.symm hne)).trans HSC.out)
  have d11 : W3.cell? ⟨p, 11, none⟩ = some (.iface 85 (.pointer (some ⟨w.heap.size + 1, 0, none⟩))) := by simp [World.cell?, ho3 p hne, hbp, procCells]
  have dE : W3.cell? ⟨w.heap.size + 1, 1, none⟩ = some (.iface 62 (.pointer (some ea))) := by simp [World.cell?, ho3 (w.heap.size + 1) (by omega), hbe]
  have HF := hide (And.intro (fun i (hi : i < w.heap.size) (hip : i ≠ p) (his : i ≠ sc) => (ho3 i his).trans (hoth i hi hip)) (And.intro (show w.heap.size ≤ W3.heap.size by omega) (And.intro (q1.trans hos.1) (And.intro (q2.trans hos.2.1) (q3.trans hos.2.2)))))
  have HE1 := hide dE
  clear hW2 HE ho3 hs3 q1 q2 q3 hoth hbp hbe hsz hos dE
  go_wp2
  go_ret
  exact ⟨_, rfl, d11, HE1.out, HF.out⟩
end Go.Proofs.YbulkdzwFmt
