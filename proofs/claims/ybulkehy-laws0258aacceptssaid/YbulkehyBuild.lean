import Derived.Test.YbulkehyRows
import Derived.WalkKit
import Derived.WalkSpells
import Derived.WalkLawsBesides
import Derived.Outline
import Derived.Laws.CopyOwn
import Derived.MapKept
import Derived.Deep.DeepCutAuto
set_option linter.unusedVariables false
namespace Go.Proofs.Ybulkehy
open Go.RowKit

theorem hide {p : Prop} (h : p) : Hid p := h
theorem Yba.info5 : (Yba.prog.info? 5).map (fun i => (i.zero, i.size, i.bytes)) = some (some (.int .u8 0), 1, 1) := by kernel_rfl

theorem eql_nil (a : Option Addr) (n c : Nat) (w : World) : (binOp .eql 26 (.slice a n c) (.slice none 0 0)).run Yba.prog w = .ok (.bool a.isNone) w :=
  Lib.run_eql_slice_nil (P := Yba.prog) w 26 5 a n c 0 0 Yba.underlying26

def argCells (id ts fts att : Int) (rs : ByteArray) (due : Int) (a : Option Addr) (n c : Nat) (pn : Bool) : Array Value := #[.int .u64 id, .int .i64 ts, .int .i64 fts, .int .i64 att, .string rs, .int .i64 due, .slice a n c, .bool pn]
def envCells (id ts fts att : Int) (rs : ByteArray) (due : Int) (pv : Value) : Array Value := #[.int .u64 id, .int .i64 ts, .int .i64 fts, .int .i64 att, .string rs, .int .i64 due, pv]

set_option maxRecDepth 100000 in
theorem build_nil (id ts fts att : Int) (rs : ByteArray) (due : Int) (a : Option Addr) (n c : Nat) (w : World) :
    Calls Yba.prog 5 #[.agg #[.int .u64 id, .int .i64 ts, .int .i64 fts, .int .i64 att, .string rs, .int .i64 due, .slice a n c, .bool true]] w fun e w' =>
      e = .returned (.agg #[.int .u64 id, .int .i64 ts, .int .i64 fts, .int .i64 att, .string rs, .int .i64 due, .slice none 0 0]) ∧ Below w.heap.size w w' := by
  go_enter Yba.func5, Yba.ntmps5
  go_wp2
  refine bodyPost_ret (v := .agg #[.int .u64 id, .int .i64 ts, .int .i64 fts, .int .i64 att, .string rs, .int .i64 due, .slice none 0 0]) (by simp [results, Yba.results5, go_sem]) rfl ⟨rfl, ?_⟩
  exact (((Below.refl _ _).alloc (Nat.le_refl _) _).alloc (by simp) _).alloc (by simp; omega) _

/-- The three blocks that the build lays. -/
def W3 (w : World) (id ts fts att : Int) (rs : ByteArray) (due : Int) (a : Option Addr) (n c : Nat) : World :=
  ((w.alloc (.cells #[.int .u64 id, .int .i64 ts, .int .i64 fts, .int .i64 att, .string rs, .int .i64 due, .slice a n c, .bool false] 25)).alloc (.cells #[.int .u64 0, .int .i64 0, .int .i64 0, .int .i64 0, .string { data := #[] }, .int .i64 0, .slice none 0 0] 28)).alloc
    (.cells #[.int .u64 id, .int .i64 ts, .int .i64 fts, .int .i64 att, .string rs, .int .i64 due, .slice none 0 0] 28)

theorem W3_blocks (w : World) (id ts fts att : Int) (rs : ByteArray) (due : Int) (a : Option Addr) (n c : Nat) :
    (W3 w id ts fts att rs due a n c).heap[w.heap.size]? = some (.cells #[.int .u64 id, .int .i64 ts, .int .i64 fts, .int .i64 att, .string rs, .int .i64 due, .slice a n c, .bool false] 25) ∧
    (W3 w id ts fts att rs due a n c).heap[w.heap.size + 1]? = some (.cells #[.int .u64 0, .int .i64 0, .int .i64 0, .int .i64 0, .string { data := #[] }, .int .i64 0, .slice none 0 0] 28) ∧
    (W3 w id ts fts att rs due a n c).heap[w.heap.size + 2]? = some (.cells #[.int .u64 id, .int .i64 ts, .int .i64 fts, .int .i64 att, .string rs, .int .i64 due, .slice none 0 0] 28) ∧
    (W3 w id ts fts att rs due a n c).heap.size = w.heap.size + 3 ∧ Below w.heap.size w (W3 w id ts fts att rs due a n c) := by
  unfold W3
  refine ⟨?_, ?_, ?_, by simp, (((Below.refl _ _).alloc (Nat.le_refl _) _).alloc (by simp) _).alloc (by simp; omega) _⟩
  · rw [Below.heap_alloc _ _ _ (by simp; omega), Below.heap_alloc _ _ _ (by simp)]; exact (MapKept.heap_alloc w _).1
  · rw [Below.heap_alloc _ _ _ (by simp)]; have := (MapKept.heap_alloc (w.alloc (.cells #[.int .u64 id, .int .i64 ts, .int .i64 fts, .int .i64 att, .string rs, .int .i64 due, .slice a n c, .bool false] 25)) (.cells #[.int .u64 0, .int .i64 0, .int .i64 0, .int .i64 0, .string { data := #[] }, .int .i64 0, .slice none 0 0] 28)).1; simpa using this
  · have := (MapKept.heap_alloc ((w.alloc (.cells #[.int .u64 id, .int .i64 ts, .int .i64 fts, .int .i64 att, .string rs, .int .i64 due, .slice a n c, .bool false] 25)).alloc (.cells #[.int .u64 0, .int .i64 0, .int .i64 0, .int .i64 0, .string { data := #[] }, .int .i64 0, .slice none 0 0] 28)) (.cells #[.int .u64 id, .int .i64 ts, .int .i64 fts, .int .i64 att, .string rs, .int .i64 due, .slice none 0 0] 28)).1
    simpa using this

set_option maxRecDepth 100000 in
theorem build_some (id ts fts att : Int) (rs : ByteArray) (due : Int) (a : Option Addr) (n c : Nat) (w : World) (hn : n ≤ 4096) (xs : List Value) (hx : xs.length = n) (h1 : ∀ v ∈ xs, v.oneCell' = true)
    (hc : 0 < n → ∃ ad, a = some ad ∧ ad.block < w.heap.size ∧ ∀ j v, xs[j]? = some v → w.cell? (ad.add j) = some v) :
    Calls Yba.prog 5 #[.agg #[.int .u64 id, .int .i64 ts, .int .i64 fts, .int .i64 att, .string rs, .int .i64 due, .slice a n c, .bool false]] w fun e w' =>
      (∃ g, e = .returned (.agg #[.int .u64 id, .int .i64 ts, .int .i64 fts, .int .i64 att, .string rs, .int .i64 due, .slice (some g) n n])) ∧ Below w.heap.size w w' := by
  obtain ⟨i5, hi5, hz5, hs5, hb5⟩ := info_parts Yba.info5
  have HX := hide hx
  have H1 := hide h1
  have HC := hide hc
  clear hx h1 hc
  go_enter Yba.func5, Yba.ntmps5
  go_upto_region 10 with (at_make; refine wpList_make_full _ rfl _ _ 23 rfl (w.heap.size + 3) 5 i5 _ 1 Yba.underlying23 hi5 hz5 hs5 _ _ _ _ n rfl rfl rfl rfl (by rw [hb5]; omega) (by unfold maxLen; omega) (by simp) ?_; intro w4 hown4 hgrow4)
  obtain ⟨k0, k1, k2, ks, kb⟩ := W3_blocks w id ts fts att rs due a n c
  have hg4 : (W3 w id ts fts att rs due a n c).grownBy w4 none := hgrow4
  have bel4 : Below (w.heap.size + 3) (W3 w id ts fts att rs due a n c) w4 := (Below.refl _ _).grown hg4 (by omega) (fun k e => by cases e)
  obtain ⟨cur, hcur, hcs⟩ : ∃ cur : Array Value, w4.heap[w.heap.size + 1 + 1 + 1]? = some (.cells cur 5 (0, 0)) ∧ cur.size = n := by
    rcases hown4.2 with ⟨h, _⟩ | ⟨g, cap, cur, hv, hb, hh, _, _, hs, _⟩
    · simp at h
    · simp only [Value.slice.injEq, Option.some.injEq, Addr.mk.injEq] at hv
      obtain ⟨⟨rfl, _⟩, _, rfl⟩ := hv
      exact ⟨cur, by simpa using hh, by omega⟩
  have d6 : w4.cell? ⟨w.heap.size, 6, none⟩ = some (.slice a n c) := (bel4.cell (p := ⟨w.heap.size, 6, none⟩) (by simp only; omega)).trans (by simp [World.cell?, k0])
  have hpos : 0 < xs.length → some (⟨w.heap.size + 1 + 1 + 1, 0, none⟩ : Addr) = some ⟨w.heap.size + 1 + 1 + 1, 0, none⟩ ∧ ∃ ad, a = some ad ∧ ∀ j v, xs[j]? = some v → w4.cell? (ad.add j) = some v := by
    intro h0
    obtain ⟨ad, rfl, hlt, hcc⟩ := HC.out (by rw [← HX.out]; exact h0)
    refine ⟨rfl, ad, rfl, fun j v hj => ?_⟩
    rw [(bel4.cell (p := ad.add j) (by show (ad.add j).block < _; have : (ad.add j).block = ad.block := by cases ad; simp [Addr.add]; split <;> rfl
                                       omega)), kb.cell (p := ad.add j) (by have : (ad.add j).block = ad.block := by cases ad; simp [Addr.add]; split <;> rfl
                                                                            omega)]
    exact hcc j v hj
  have HPOS := hide hpos
  have HCUR := hide hcur
  clear hpos hcur hgrow4 hg4 hown4
  go_upto_region 11 with (refine wpList_copy_splice rfl (.tmp 30) (.tmp 32) 23 23 rfl 5 Yba.underlying23 (by kernel_rfl) (some ⟨w.heap.size + 1 + 1 + 1, 0, none⟩) a n n n c rfl rfl (w.heap.size + 1 + 1 + 1) 0 cur.toList 5 (by simpa using HCUR.out) xs (by rw [HX.out]; simp) HPOS.out (by rw [HX.out]; simp; omega) H1.out (w.heap.size + 3) (W3 w id ts fts att rs due a n c) bel4 (by omega) ?_; intro w5 _ bel5)
  have hat : ∀ (b o : Nat) (v : Value), b < w.heap.size + 3 → (W3 w id ts fts att rs due a n c).cell? ⟨b, o, none⟩ = some v → w5.cell? ⟨b, o, none⟩ = some v := fun b o v hb h => (bel5.cell (p := ⟨b, o, none⟩) hb).trans h
  have e0 := hat (w.heap.size + 1) 0 (.int .u64 0) (by omega) (by simp [World.cell?, k1])
  have e1 := hat (w.heap.size + 1) 1 (.int .i64 0) (by omega) (by simp [World.cell?, k1])
  have e2 := hat (w.heap.size + 1) 2 (.int .i64 0) (by omega) (by simp [World.cell?, k1])
  have e3 := hat (w.heap.size + 1) 3 (.int .i64 0) (by omega) (by simp [World.cell?, k1])
  have e4 := hat (w.heap.size + 1) 4 (.string { data := #[] }) (by omega) (by simp [World.cell?, k1])
  have e5 := hat (w.heap.size + 1) 5 (.int .i64 0) (by omega) (by simp [World.cell?, k1])
  have e6 := hat (w.heap.size + 1) 6 (.slice none 0 0) (by omega) (by simp [World.cell?, k1])
  have g0 := hat (w.heap.size + 1 + 1) 0 (.int .u64 id) (by omega) (by simp [World.cell?, k2])
  have g1 := hat (w.heap.size + 1 + 1) 1 (.int .i64 ts) (by omega) (by simp [World.cell?, k2])
  have g2 := hat (w.heap.size + 1 + 1) 2 (.int .i64 fts) (by omega) (by simp [World.cell?, k2])
  have g3 := hat (w.heap.size + 1 + 1) 3 (.int .i64 att) (by omega) (by simp [World.cell?, k2])
  have g4 := hat (w.heap.size + 1 + 1) 4 (.string rs) (by omega) (by simp [World.cell?, k2])
  have g5 := hat (w.heap.size + 1 + 1) 5 (.int .i64 due) (by omega) (by simp [World.cell?, k2])
  have g6 := hat (w.heap.size + 1 + 1) 6 (.slice none 0 0) (by omega) (by simp [World.cell?, k2])
  have f1 : ∀ o, w5.frozen? ⟨w.heap.size + 1, o, none⟩ = false := fun o => (bel5.frozen (p := ⟨w.heap.size + 1, o, none⟩) (by simp only; omega)).trans (by simp [World.frozen?, k1])
  have f2 : ∀ o, w5.frozen? ⟨w.heap.size + 1 + 1, o, none⟩ = false := fun o => (bel5.frozen (p := ⟨w.heap.size + 1 + 1, o, none⟩) (by simp only; omega)).trans (by simp [World.frozen?, k2])
  have BF := hide (kb.trans (bel5.mono (by omega)))
  clear hat bel4 bel5 k0 k1 k2 ks kb d6 HPOS HCUR HX H1 HC
  go_wp2
  refine bodyPost_ret (v := .agg #[.int .u64 id, .int .i64 ts, .int .i64 fts, .int .i64 att, .string rs, .int .i64 due, .slice (some ⟨w.heap.size + 1 + 1 + 1, 0, none⟩) n n]) (by simp [results, Yba.results5, go_sem, e0, e1, e2, e3, e4, e5, e6]) rfl ⟨⟨_, rfl⟩, ?_⟩
  iterate 8 refine Below.setCell ?_ (by simp only; omega) _
  exact BF.out
end Go.Proofs.Ybulkehy
