import Derived.Test.YbulkehyBuild
set_option linter.unusedVariables false
namespace Go.Proofs.Ybulkehy
open Go.RowKit

set_option maxRecDepth 100000 in
theorem new_any (s : ByteArray) (w : World) :
    Calls Yba.prog 8 #[.string s] w fun e w' => (∃ a, e = .returned (.iface 37 (.pointer (some a)))) ∧ Below w.heap.size w w' := by
  go_enter Yba.func8, Yba.ntmps8
  go_wp2
  go_ret
  exact ⟨⟨_, rfl⟩, (Below.refl _ _).alloc (Nat.le_refl _) _⟩

/-- An envelope in block b, as 'checkEnvelope' reads it. -/
structure Env (w : World) (b : Nat) (id att : Int) (pv : Option Addr) (n c : Nat) : Prop where
  c0 : w.cell? ⟨b, 0, none⟩ = some (.int .u64 id)
  c3 : w.cell? ⟨b, 3, none⟩ = some (.int .i64 att)
  c6 : w.cell? ⟨b, 6, none⟩ = some (.slice pv n c)

set_option maxRecDepth 100000 in
theorem check_ok (b : Nat) (id att : Int) (g : Addr) (n c : Nat) (w : World) (h : Env w b id att (some g) n c) (h0 : (id == 0) = false) (h1 : ¬ att < 1) :
    Calls Yba.prog 6 #[.pointer (some ⟨b, 0, none⟩)] w fun e w' => e = .returned .nilIface ∧ w = w' := by
  have hq := eql_nil
  obtain ⟨c0, c3, c6⟩ := h
  go_enter Yba.func6, Yba.ntmps6
  go_wp2
  go_ret
  exact ⟨rfl, rfl⟩

set_option maxRecDepth 100000 in
theorem check_bad (b : Nat) (id att : Int) (pv : Option Addr) (n c : Nat) (w : World) (h : Env w b id att pv n c) (hbad : id = 0 ∨ att < 1 ∨ pv = none) :
    Calls Yba.prog 6 #[.pointer (some ⟨b, 0, none⟩)] w fun e w' => (∃ a, e = .returned (.iface 37 (.pointer (some a)))) ∧ Below w.heap.size w w' := by
  have hq := eql_nil
  obtain ⟨c0, c3, c6⟩ := h
  by_cases h0 : id = 0
  · clear hbad
    have h0' : (id == 0) = true := by simp [h0]
    clear h0
    go_enter Yba.func6, Yba.ntmps6
    go_wp2_with (go_at_call 8; refine (new_any _ _).mono ?_; rintro e w' ⟨⟨a, rfl⟩, hb⟩)
    go_ret
    exact ⟨⟨_, rfl⟩, hb⟩
  · have h0' : (id == 0) = false := by simp [h0]
    by_cases h1 : att < 1
    · clear hbad h0
      go_enter Yba.func6, Yba.ntmps6
      go_wp2_with (go_at_call 8; refine (new_any _ _).mono ?_; rintro e w' ⟨⟨a, rfl⟩, hb⟩)
      go_ret
      exact ⟨⟨_, rfl⟩, hb⟩
    · obtain rfl : pv = none := by rcases hbad with h | h | h
                                   · exact absurd h h0
                                   · exact absurd h h1
                                   · exact h
      clear hbad h0
      go_enter Yba.func6, Yba.ntmps6
      go_wp2_with (go_at_call 8; refine (new_any _ _).mono ?_; rintro e w' ⟨⟨a, rfl⟩, hb⟩)
      go_ret
      exact ⟨⟨_, rfl⟩, hb⟩

set_option maxRecDepth 100000 in
/-- The law, out of what the build gives: pv is nil just where PayloadNil says so. -/
theorem law_of (id ts fts att : Int) (rs : ByteArray) (due : Int) (a : Option Addr) (n c : Nat) (pn : Bool) (w : World) (hn : n ≤ 4096)
    (hC : ∀ w1 : World, Below w.heap.size w w1 → Calls Yba.prog 5 #[.agg #[.int .u64 id, .int .i64 ts, .int .i64 fts, .int .i64 att, .string rs, .int .i64 due, .slice a n c, .bool pn]] w1 fun e w' =>
      (∃ pv n' c', e = .returned (.agg #[.int .u64 id, .int .i64 ts, .int .i64 fts, .int .i64 att, .string rs, .int .i64 due, .slice pv n' c']) ∧ pv.isNone = pn) ∧ Below w1.heap.size w1 w') :
    Calls Yba.prog 3 #[.agg #[.int .u64 id, .int .i64 ts, .int .i64 fts, .int .i64 att, .string rs, .int .i64 due, .slice a n c, .bool pn]] w fun e w' => e = .returned (.bool true) ∧ Below w.heap.size w w' := by
  have HC := hide (hC (w.alloc (.cells #[.int .u64 id, .int .i64 ts, .int .i64 fts, .int .i64 att, .string rs, .int .i64 due, .slice a n c, .bool pn] 25)) ((Below.refl _ _).alloc (Nat.le_refl _) _))
  clear hC
  go_enter Yba.func3, Yba.ntmps3
  go_upto_region 4 with (go_at_call 5; refine Calls.mono HC.out ?_; rintro e w' ⟨⟨pv, n', c', rfl, hpv⟩, hb⟩)
  have HPV := hide hpv
  have bel0 : Below w.heap.size w w' := ((Below.refl _ _).alloc (Nat.le_refl _) _).trans (hb.mono (by simp))
  have d0 : w'.cell? ⟨w.heap.size, 0, none⟩ = some (.int .u64 id) := (hb.cell (p := ⟨w.heap.size, 0, none⟩) (by simp)).trans (by simp)
  have d3 : w'.cell? ⟨w.heap.size, 3, none⟩ = some (.int .i64 att) := (hb.cell (p := ⟨w.heap.size, 3, none⟩) (by simp)).trans (by simp)
  have d7 : w'.cell? ⟨w.heap.size, 7, none⟩ = some (.bool pn) := (hb.cell (p := ⟨w.heap.size, 7, none⟩) (by simp)).trans (by simp)
  have hlt : w.heap.size < w'.heap.size := by have := hb.size; simp at this; omega
  have hE : Env (w'.alloc (.cells #[.int .u64 id, .int .i64 ts, .int .i64 fts, .int .i64 att, .string rs, .int .i64 due, .slice pv n' c'] 28)) w'.heap.size id att pv n' c' := ⟨by simp, by simp, by simp⟩
  have HE := hide hE
  clear HC hb hpv hE
  by_cases hgood : id ≠ 0 ∧ 1 ≤ att ∧ pn = false
  · obtain ⟨h0, h1, rfl⟩ := hgood
    have h0' : (id == 0) = false := by simp [h0]
    have h0n : (id != 0) = true := by simp [h0]
    obtain ⟨g, rfl⟩ : ∃ g, pv = some g := by cases pv with | none => simp [Hid] at HPV | some g => exact ⟨g, rfl⟩
    have HK := hide (check_ok _ _ _ _ _ _ _ HE.out h0' (by omega))
    clear HE HPV h0
    go_wp2_with (go_at_call 6; refine Calls.mono HK.out ?_; rintro e w2 ⟨rfl, rfl⟩)
    go_ret
    exact ⟨rfl, bel0.alloc (by omega) _⟩
  · have HK := hide (check_bad _ _ _ _ _ _ _ HE.out (by
      by_cases h0 : id = 0
      · exact .inl h0
      · by_cases h1 : att < 1
        · exact .inr (.inl h1)
        · refine .inr (.inr ?_)
          have hp : pn = true := by cases pn with | true => rfl | false => exact absurd ⟨h0, by omega, rfl⟩ hgood
          have := HPV.out
          rw [hp] at this
          simpa using this))
    have hbb := bel0.alloc (Nat.le_of_lt hlt) (.cells #[.int .u64 id, .int .i64 ts, .int .i64 fts, .int .i64 att, .string rs, .int .i64 due, .slice pv n' c'] 28)
    have HG := hide hgood
    clear HE hgood HPV
    go_upto_region 5 with (go_at_call 6; refine Calls.mono HK.out ?_; rintro e w2 ⟨⟨ae, rfl⟩, hb2⟩)
    have f0 : w2.cell? ⟨w.heap.size, 0, none⟩ = some (.int .u64 id) := (hb2.cell (p := ⟨w.heap.size, 0, none⟩) (by simp; omega)).trans ((World.cell?_of_block (Below.heap_alloc _ _ _ hlt)).trans d0)
    have f3 : w2.cell? ⟨w.heap.size, 3, none⟩ = some (.int .i64 att) := (hb2.cell (p := ⟨w.heap.size, 3, none⟩) (by simp; omega)).trans ((World.cell?_of_block (Below.heap_alloc _ _ _ hlt)).trans d3)
    have f7 : w2.cell? ⟨w.heap.size, 7, none⟩ = some (.bool pn) := (hb2.cell (p := ⟨w.heap.size, 7, none⟩) (by simp; omega)).trans ((World.cell?_of_block (Below.heap_alloc _ _ _ hlt)).trans d7)
    have BF := hide (hbb.trans (hb2.mono (by simp; omega)))
    clear hb2 hbb HK
    by_cases h0 : id = 0
    · have h0n : (id != 0) = false := by simp [h0]
      clear h0
      go_wp2
      go_ret
      exact ⟨rfl, BF.out⟩
    · have h0n : (id != 0) = true := by simp [h0]
      by_cases h1 : 1 ≤ att
      · obtain rfl : pn = true := by cases pn with | true => rfl | false => exact absurd ⟨h0, h1, rfl⟩ HG.out
        clear h0
        go_wp2
        go_ret
        exact ⟨rfl, BF.out⟩
      · clear h0
        go_wp2
        go_ret
        exact ⟨rfl, BF.out⟩

set_option maxRecDepth 100000 in
theorem law_big (id ts fts att : Int) (rs : ByteArray) (due : Int) (a : Option Addr) (n c : Nat) (pn : Bool) (w : World) (hn : 4096 < n) (hm : n ≤ maxLen) :
    Calls Yba.prog 3 #[.agg #[.int .u64 id, .int .i64 ts, .int .i64 fts, .int .i64 att, .string rs, .int .i64 due, .slice a n c, .bool pn]] w fun e w' => e = .returned (.bool true) ∧ Below w.heap.size w w' := by
  unfold maxLen at hm
  go_enter Yba.func3, Yba.ntmps3
  go_wp2
  go_ret
  exact ⟨rfl, (Below.refl _ _).alloc (Nat.le_refl _) _⟩
end Go.Proofs.Ybulkehy
