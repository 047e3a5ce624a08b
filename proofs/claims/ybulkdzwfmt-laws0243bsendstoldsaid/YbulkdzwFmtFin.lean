import Derived.Test.YbulkdzwFmtNine
import Derived.Deep.QuietTactic
import Derived.BigQuiet
set_option linter.unusedVariables false
namespace Go.Proofs.YbulkdzwFmt
open Go.RowKit Go.Extern.Stop Go.Stop Go.Extern

theorem msgL_len (kd at_ : Int) (pr : ByteArray) : ∀ k, (msgL kd at_ pr k).length = k * 4
  | 0 => rfl
  | k + 1 => by simp [msgL, msgL_len kd at_ pr k]; omega

def msgC (kd at_ : Int) (pr : ByteArray) : List Value := [.int .u8 kd, .int .u64 at_, .string pr, .slice none 0 0]

theorem msgL_at (kd at_ : Int) (pr : ByteArray) : ∀ k j c, j < k → c < 4 → (msgL kd at_ pr k)[j * 4 + c]? = (msgC kd at_ pr)[c]?
  | 0, j, c, h, _ => absurd h (Nat.not_lt_zero _)
  | k + 1, j, c, h, hc => by
    by_cases e : j = k
    · subst e
      rw [msgL, List.getElem?_append_right (by rw [msgL_len]; omega), msgL_len, Nat.add_sub_cancel_left]
      rfl
    · rw [msgL, List.getElem?_append_left (by rw [msgL_len]; omega)]
      exact msgL_at kd at_ pr k j c (by omega) hc

/-- What the walk reads of the carrier after the sends. -/
structure Fin (w' : World) (t K : Nat) (os : Nat → ByteArray) (kd at_ : Int) (pr : ByteArray) (oa1 : Option Addr) (cap1 g1 : Nat) (oa2 : Option Addr) (cap2 g2 : Nat) : Prop where
  t3 : w'.cell? ⟨t, 3, none⟩ = some (.slice oa1 K cap1)
  t4 : w'.cell? ⟨t, 4, none⟩ = some (.slice oa2 K cap2)
  tos : ∀ j, j < K → oa1 = some ⟨g1, 0, none⟩ ∧ w'.cell? ⟨g1, j, none⟩ = some (.string (os j))
  msgs : ∀ j, j < K → oa2 = some ⟨g2, 0, none⟩ ∧ w'.cell? ⟨g2, j * 4, none⟩ = some (.int .u8 kd) ∧ w'.cell? ⟨g2, j * 4 + 1, none⟩ = some (.int .u64 at_) ∧ w'.cell? ⟨g2, j * 4 + 2, none⟩ = some (.string pr) ∧ w'.cell? ⟨g2, j * 4 + 3, none⟩ = some (.slice none 0 0)

theorem own_get {w : World} {base e size n : Nat} {v : Value} {xs : List Value} (h : w.ownsRow base e size v n xs) : ∃ oa cap g, v = .slice oa n cap ∧ (0 < n → oa = some ⟨g, 0, none⟩) ∧ ∀ i, i < n * size → w.cell? ⟨g, i, none⟩ = xs[i]? := by
  rcases h.2 with ⟨rfl, rfl⟩ | ⟨g, cap, cur, rfl, _, hh, _, _, _, ht⟩
  · exact ⟨_, _, 0, rfl, fun h => absurd h (Nat.lt_irrefl _), fun i hi => absurd hi (by simp)⟩
  · refine ⟨_, _, g, rfl, fun _ => rfl, fun i hi => ?_⟩
    have e : (cur.toList.take (n * size))[i]? = xs[i]? := by rw [ht]
    rw [List.getElem?_take, if_pos hi] at e
    simp only [World.cell?, hh]
    simpa using e

theorem Tr.fin {w : World} {t base : Nat} {f : Int} {er : Value} {K : Nat} {os : Nat → ByteArray} {kd at_ : Int} {pr : ByteArray} {tv mv : Value} (h : Tr w t base f er K (toL os K) (msgL kd at_ pr K) tv mv) : ∃ oa1 cap1 g1 oa2 cap2 g2, Fin w t K os kd at_ pr oa1 cap1 g1 oa2 cap2 g2 := by
  obtain ⟨oa1, cap1, g1, rfl, h1, h2⟩ := own_get h.own1
  obtain ⟨oa2, cap2, g2, rfl, h3, h4⟩ := own_get h.own2
  refine ⟨oa1, cap1, g1, oa2, cap2, g2, by simp [World.cell?, h.blk], by simp [World.cell?, h.blk], fun j hj => ⟨h1 (by omega), ?_⟩, fun j hj => ⟨h3 (by omega), ?_, ?_, ?_, ?_⟩⟩
  · rw [h2 j (by omega)]; simp [toL, hj]
  · exact (h4 (j * 4 + 0) (by omega)).trans (msgL_at kd at_ pr K j 0 hj (by omega))
  · exact (h4 (j * 4 + 1) (by omega)).trans (msgL_at kd at_ pr K j 1 hj (by omega))
  · exact (h4 (j * 4 + 2) (by omega)).trans (msgL_at kd at_ pr K j 2 hj (by omega))
  · exact (h4 (j * 4 + 3) (by omega)).trans (msgL_at kd at_ pr K j 3 hj (by omega))

theorem Fin.later {w w' : World} {t K : Nat} {os : Nat → ByteArray} {kd at_ : Int} {pr : ByteArray} {oa1 : Option Addr} {cap1 g1 : Nat} {oa2 : Option Addr} {cap2 g2 : Nat} (h : Fin w t K os kd at_ pr oa1 cap1 g1 oa2 cap2 g2) (hb : Below w.heap.size w w') : Fin w' t K os kd at_ pr oa1 cap1 g1 oa2 cap2 g2 := by
  have k : ∀ {a : Addr} {v : Value}, w.cell? a = some v → w'.cell? a = some v := fun hc => (hb.cell (World.block_lt_of_cell? _ _ hc)).trans hc
  exact ⟨k h.t3, k h.t4, fun j hj => ⟨(h.tos j hj).1, k (h.tos j hj).2⟩, fun j hj => ⟨(h.msgs j hj).1, k (h.msgs j hj).2.1, k (h.msgs j hj).2.2.1, k (h.msgs j hj).2.2.2.1, k (h.msgs j hj).2.2.2.2⟩⟩

/-- What 'sendOthers' hands back, with the number that went. -/
def Went (w' : World) (p : Nat) (n : Nat) (f : Int) (ea : Addr) (K : Nat) (ev : Value) : Prop :=
  (f = -1 ∧ K = n ∧ ev = .nilIface ∧ w'.cell? ⟨p, 11, none⟩ = some .nilIface) ∨
  (0 ≤ f ∧ (K : Int) = f + 1 ∧ K ≤ n ∧ ∃ eb, ev = .iface 85 (.pointer (some ⟨eb, 0, none⟩)) ∧ w'.cell? ⟨p, 11, none⟩ = some (.iface 85 (.pointer (some ⟨eb, 0, none⟩))) ∧ w'.cell? ⟨eb, 1, none⟩ = some (.iface 62 (.pointer (some ea))))

theorem Went.le {w' : World} {p n : Nat} {f : Int} {ea : Addr} {K : Nat} {ev : Value} (h : Went w' p n f ea K ev) : K ≤ n := by
  rcases h with ⟨_, h, _⟩ | ⟨_, _, h, _⟩ <;> omega

theorem Went.later {w w' : World} {p n : Nat} {f : Int} {ea : Addr} {K : Nat} {ev : Value} (h : Went w p n f ea K ev) (hb : Below w.heap.size w w') : Went w' p n f ea K ev := by
  have k : ∀ {a : Addr} {v : Value}, w.cell? a = some v → w'.cell? a = some v := fun hc => (hb.cell (World.block_lt_of_cell? _ _ hc)).trans hc
  rcases h with ⟨h1, h2, h3, h4⟩ | ⟨h1, h2, h3, eb, h4, h5, h6⟩
  · exact .inl ⟨h1, h2, h3, k h4⟩
  · exact .inr ⟨h1, h2, h3, eb, h4, k h5, k h6⟩

theorem sent (F : Interp) (B p t sc : Nat) (q h g : Value) (oa : Option Addr) (ob n cap : Nat) (os : Nat → ByteArray) (f kd at_ : Int) (pr s : ByteArray) (ea : Addr) (w0 w : World) (hF : F.answers w.tape) (hn : n ≤ 1024)
    (hf : f = -1 ∨ (0 ≤ f ∧ f < n)) (hB : B ≤ w.heap.size) (hBel : Below B w0 w) (hBt : B ≤ t) (hBp : B ≤ p) (hBs : B ≤ sc)
    (hp : w.heap[p]? = some (.cells (procCells (.slice oa n cap) (.iface 28 (.pointer (some ⟨t, 0, none⟩))) q h g sc .nilIface) 49 (0, 0)))
    (ht : w.heap[t]? = some (.cells #[.int .i64 f, .iface 62 (.pointer (some ea)), .int .i64 0, .slice none 0 0, .slice none 0 0] 31 (0, 0)))
    (hsc : w.heap[sc]? = some (.chan 0 #[] false 0 0 false)) (hs : w.cell? ea = some (.string s)) (hea : ea.block < w.heap.size) (het : ea.block ≠ t) (hep : ea.block ≠ p)
    (ho : ∀ j, j < n → oa = some ⟨ob, 0, none⟩ ∧ w.cell? ⟨ob, j, none⟩ = some (.string (os j))) (hob : ob < w.heap.size) (hobt : ob ≠ t) :
    Calls Ybaf.prog 6 #[.pointer (some ⟨p, 0, none⟩), .int .u8 kd, .agg #[.int .u64 at_, .string pr, .slice none 0 0]] w fun e w' =>
      ∃ ev, e = .returned ev ∧ ∃ K oa1 cap1 g1 oa2 cap2 g2, Went w' p n f ea K ev ∧ Fin w' t K os kd at_ pr oa1 cap1 g1 oa2 cap2 g2 ∧ Below B w0 w' := by
  have htp : t ≠ p := by intro e; rw [e, hp] at ht; simp [procCells] at ht
  have hpl : p < w.heap.size := (Array.getElem?_eq_some_iff.1 hp).1
  refine (others_any F p t sc q h g oa ob n cap os f kd at_ pr s ea w hF hn hp ht hsc hs hea het hep ho hob hobt).mono fun e w' hh => ?_
  rcases hh with ⟨hno, rfl, ⟨tv, mv, hT⟩, hK⟩ | ⟨j, hj, hjf, eb, rfl, h1, h2, ⟨tv, mv, hT⟩, hsz, hos, htp', hout, hblk⟩
  · have hf1 : f = -1 := by
      rcases hf with h | ⟨h0, h1⟩
      · exact h
      · exact absurd (Int.toNat_of_nonneg h0) (hno f.toNat (by omega))
    obtain ⟨oa1, cap1, g1, oa2, cap2, g2, hfin⟩ := hT.fin
    refine ⟨_, rfl, n, oa1, cap1, g1, oa2, cap2, g2, .inl ⟨hf1, rfl, rfl, ?_⟩, hfin, ?_⟩
    · simp [World.cell?, hK.block p hpl (Ne.symm htp), hp, procCells]
    · exact hBel.trans ⟨hK.os, hK.tape, hK.output, hK.size, fun i hi => hK.block i (by omega) (by omega)⟩
  · obtain ⟨oa1, cap1, g1, oa2, cap2, g2, hfin⟩ := hT.fin
    refine ⟨_, rfl, j + 1, oa1, cap1, g1, oa2, cap2, g2, .inr ⟨by omega, by omega, by omega, eb, rfl, h1, h2⟩, hfin, ?_⟩
    exact hBel.trans ⟨hos, htp', hout, hsz, fun i hi => hblk i (by omega) (by omega) (by omega) (by omega)⟩

theorem isCompW : (Ybaf.prog.info? 85).map (·.comparable) = some true := by kernel_rfl
theorem isSizeW : (Ybaf.prog.info? 118).map (·.size) = some 2 := by kernel_rfl
theorem eqlWrap (a : Addr) (w : World) : (binOp .eql 26 (.iface 85 (.pointer (some a))) (.iface 85 (.pointer (some a)))).run Ybaf.prog w = .ok (.bool true) w := by
  obtain ⟨i, hi, hcmp⟩ := Option.map_eq_some_iff.1 isCompW
  have hj := isSizeW
  obtain ⟨j, hj, _⟩ := Option.map_eq_some_iff.1 hj
  exact run_eql_iface_ptr_same (P := Ybaf.prog) w a Ybaf.underlying26 Ybaf.underlying85 hi hcmp hj
end Go.Proofs.YbulkdzwFmt
