import Derived.Test.YbulkdzwMaps
import Derived.Deep.QuietTactic
import Derived.BigQuiet
namespace Go.Proofs.Ybulkdzw
open Go.RowKit Go.MapKept

def self : ByteArray := { data := #[115, 101, 108, 102] }

/-- The law's process, in block p: its fields as the law lays them. -/
def procCells (v : Value) (q h : Nat) : Array Value :=
  #[.int .i32 0, .int .u32 0, .string { data := #[115, 101, 108, 102] }, v, .nilIface, .nilIface, .map (some q), .map (some h), .bool false, .chan none, .chan none, .nilIface]

theorem zero66 (w : World) : (zeroValue 66).run Yba.prog w = .ok (.agg #[.int .u64 0, .string { data := #[] }]) w := by kernel_rfl
theorem zero29 (w : World) : (zeroValue 29).run Yba.prog w = .ok (.int .u64 0) w := by kernel_rfl

theorem ret_b {a b : Bool} (h : a = b) : Value.bool a = .bool b := by rw [h]
theorem ret_bool {a b : Bool} (h : a = b) : Ending.returned (.bool a) = .returned (.bool b) := by rw [h]

theorem look_self {w : World} {q qc : Nat} {qes : Array MapEntry} {x : Option Value} {ov : Int} {os : ByteArray} (hq : w.heap[q]? = some (.map qes qc)) (hx : look qes self = some x)
    (hxd : x.getD (.agg #[.int .u64 0, .string { data := #[] }]) = .agg #[.int .u64 ov, .string os]) :
    (Instr.lookup 46 (.map (some q)) (.string { data := #[115, 101, 108, 102] }) false).run Yba.prog w = .ok (.agg #[.int .u64 ov, .string os]) w := by
  rw [← hxd]
  exact run_look (s := self) Yba.underlying46 Yba.underlying9 hq hx (zero66 _)

set_option maxRecDepth 100000 in
set_option maxHeartbeats 400000 in
theorem heard_none (oa : Option Addr) (cap p q h : Nat) (w : World) (ov : Int) (os : ByteArray) (qes : Array MapEntry) (qc : Nat) (x : Option Value)
    (hp : w.heap[p]? = some (.cells (procCells (.slice oa 0 cap) q h) 64 (0, 0)))
    (hq : w.heap[q]? = some (.map qes qc)) (hx : look qes self = some x) (hxd : x.getD (.agg #[.int .u64 0, .string { data := #[] }]) = .agg #[.int .u64 ov, .string os]) :
    Calls Yba.prog 8 #[.pointer (some ⟨p, 0, none⟩)] w fun e w' => e = .returned (.bool true) ∧ Below w.heap.size w w' := by
  have c2 : w.cell? ⟨p, 2, none⟩ = some (.string { data := #[115, 101, 108, 102] }) := by simp [World.cell?, hp, procCells]
  have c3 : w.cell? ⟨p, 3, none⟩ = some (.slice oa 0 cap) := by simp [World.cell?, hp, procCells]
  have c6 : w.cell? ⟨p, 6, none⟩ = some (.map (some q)) := by simp [World.cell?, hp, procCells]
  have hpl : p < w.heap.size := (Array.getElem?_eq_some_iff.1 hp).1
  have hl := fun o => look_self (w := (w.alloc o).drew) ((Below.heap_alloc _ _ _ (Array.getElem?_eq_some_iff.1 hq).1).trans hq) hx hxd
  have hl0 := look_self (w := w.drew) hq hx hxd
  clear hp hq hx hxd
  go_enter Yba.func8, Yba.ntmps8
  go_wp2
  go_region
  all_goals go_wp2
  all_goals
    refine wp_loop_rounds 1 ?_
    rw [rounds_succ]
    go_wp2
    go_ret
    exact ⟨rfl, ((Below.refl _ _).alloc (Nat.le_refl _) _).drew⟩

set_option maxRecDepth 100000 in
set_option maxHeartbeats 400000 in
theorem heard_some (g n cap p q h : Nat) (w : World) (ov : Int) (os : ByteArray) (qes hes : Array MapEntry) (qc hc : Nat) (x : Option Value) (hv : Nat → Int) (hn : n ≤ 1024)
    (hp : w.heap[p]? = some (.cells (procCells (.slice (some ⟨g, 0, none⟩) n cap) q h) 64 (0, 0)))
    (hq : w.heap[q]? = some (.map qes qc)) (hx : look qes self = some x) (hxd : x.getD (.agg #[.int .u64 0, .string { data := #[] }]) = .agg #[.int .u64 ov, .string os])
    (hh : w.heap[h]? = some (.map hes hc)) (hhl : ∀ j, j < n → ∃ y, look hes (nm j) = some y ∧ y.getD (.int .u64 0) = .int .u64 (hv j))
    (hcell : ∀ j, j < n → w.cell? ⟨g, j, none⟩ = some (.string (nm j))) (hg : g < w.heap.size) :
    Calls Yba.prog 8 #[.pointer (some ⟨p, 0, none⟩)] w fun e w' => e = .returned (.bool (decide (∀ j, j < n → ov < hv j))) ∧ Below w.heap.size w w' := by
  have hpl : p < w.heap.size := (Array.getElem?_eq_some_iff.1 hp).1
  have hhlt : h < w.heap.size := (Array.getElem?_eq_some_iff.1 hh).1
  have c2 : w.cell? ⟨p, 2, none⟩ = some (.string { data := #[115, 101, 108, 102] }) := by simp [World.cell?, hp, procCells]
  have c3 : w.cell? ⟨p, 3, none⟩ = some (.slice (some ⟨g, 0, none⟩) n cap) := by simp [World.cell?, hp, procCells]
  have c6 : w.cell? ⟨p, 6, none⟩ = some (.map (some q)) := by simp [World.cell?, hp, procCells]
  have c7 : w.cell? ⟨p, 7, none⟩ = some (.map (some h)) := by simp [World.cell?, hp, procCells]
  have hl := fun o => look_self (w := (w.alloc o).drew) ((Below.heap_alloc _ _ _ (Array.getElem?_eq_some_iff.1 hq).1).trans hq) hx hxd
  have hl0 := look_self (w := w.drew) hq hx hxd
  clear hp hq hx hxd
  go_enter Yba.func8, Yba.ntmps8
  go_wp2
  go_region
  all_goals go_wp2
  all_goals clear hl hl0 c2 c3 c6
  go_loopw [20] (fun i wr => ∃ k : Nat, k ≤ n ∧ i = .int .i64 k ∧ (∀ j, j < k → ov < hv j) ∧ Below (w.heap.size + 1) (w.alloc (.cells #[.int .u64 ov, .string os] 66)) wr) (fun i _ => n - (intOf i).toNat)
  case atStart => exact ⟨0, Nat.zero_le _, rfl, fun j hj => absurd hj (Nat.not_lt_zero _), (Below.refl _ _).drew⟩
  case round =>
    obtain ⟨k, hk, rfl, hall, hnx⟩ := hrel
    have bel : Below w.heap.size w wr := ((Below.refl _ _).alloc (Nat.le_refl _) _).trans (hnx.mono (Nat.le_succ _))
    by_cases hlt : k < n
    · obtain ⟨y, hy, hyd⟩ := hhl k hlt
      have d7 : wr.cell? ⟨p, 7, none⟩ = some (.map (some h)) := (bel.cell hpl).trans c7
      have dn : wr.cell? ⟨g, k, none⟩ = some (.string (nm k)) := (bel.cell hg).trans (hcell k hlt)
      have d0 : wr.cell? ⟨w.heap.size, 0, none⟩ = some (.int .u64 ov) := (hnx.cell (p := ⟨w.heap.size, 0, none⟩) (Nat.lt_succ_self _)).trans (by simp)
      have hl : (Instr.lookup 47 (.map (some h)) (.string (nm k)) false).run Yba.prog wr.drew = .ok (.int .u64 (hv k)) wr.drew := by
        rw [← hyd]
        exact run_look Yba.underlying47 Yba.underlying9 ((bel.block h hhlt).trans hh) hy (zero29 _)
      have HA := hall
      clear hhl hh hcell hy hyd c7 hall
      by_cases ho : ov < hv k
      · have ho' : ¬ hv k ≤ ov := by omega
        go_wp2
        go_region
        all_goals go_wp2
        all_goals
          go_roundw
          case rel => exact ⟨k + 1, by omega, by go_num, fun j hj => if e : j = k then by rw [e]; exact ho else HA j (by omega), hnx.drew⟩
          case measure => simp [intOf]; omega
      · have ho' : hv k ≤ ov := by omega
        go_wp2
        go_region
        all_goals go_wp2
        all_goals
          go_ret
          exact ⟨ret_bool (decide_eq_false (fun H => by have := H k hlt; omega)).symm, bel.drew⟩
    · go_wp2
      go_ret
      exact ⟨ret_bool (decide_eq_true (fun j hj => hall j (by omega))).symm, bel⟩
end Go.Proofs.Ybulkdzw
