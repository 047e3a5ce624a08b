import Derived.Test.YbulkdzwFmtSend
import Derived.Deep.RegionWith
set_option linter.unusedVariables false
namespace Go.Proofs.YbulkdzwFmt
open Go.RowKit Go.Extern.Stop Go.Stop Go.Extern

theorem nilAheadSend (a : Addr) (w : World) : (nilAhead 229 28 (.pointer (some a)) "Send").run Ybaf.prog w = .ok (some false) w := by kernel_rfl
theorem methodSend (a : Addr) (w : World) : (Go.method 229 28 (.pointer (some a)) "Send").run Ybaf.prog w = .ok (28, .pointer (some a)) w := by kernel_rfl

def toL (os : Nat → ByteArray) (k : Nat) : List Value := (List.range k).map fun j => .string (os j)
def msgL (kd at_ : Int) (pr : ByteArray) : Nat → List Value
  | 0 => []
  | k + 1 => msgL kd at_ pr k ++ [.int .u8 kd, .int .u64 at_, .string pr, .slice none 0 0]
theorem toL_succ (os : Nat → ByteArray) (k : Nat) : toL os (k + 1) = toL os k ++ [.string (os k)] := by simp [toL, List.range_succ]

theorem Tr.later {W W' : World} {t base p sc : Nat} {f : Int} {er : Value} {k : Nat} {tos msgs : List Value} {tv mv : Value} (h : Tr W t base f er k tos msgs tv mv) (hs : ∀ i, i < W.heap.size → i ≠ p → i ≠ sc → W'.heap[i]? = W.heap[i]?) (hz : W.heap.size ≤ W'.heap.size)
    (hp : p < base) (hc : sc < base) (htp : t ≠ p) (htc : t ≠ sc) : Tr W' t base f er k tos msgs tv mv := by
  have hlt : t < W.heap.size := (Array.getElem?_eq_some_iff.1 h.blk).1
  have own : ∀ {e size n : Nat} {v : Value} {xs : List Value}, W.ownsRow base e size v n xs → W'.ownsRow base e size v n xs := by
    intro e size n v xs ho
    refine ⟨ho.1, ?_⟩
    rcases ho.2 with h2 | ⟨g, cap, cur, hv, hg, hh, r⟩
    · exact .inl h2
    · exact .inr ⟨g, cap, cur, hv, hg, (hs g (Array.getElem?_eq_some_iff.1 hh).1 (by omega) (by omega)).trans hh, r⟩
  exact ⟨(hs t hlt htp htc).trans h.blk, own h.own1, own h.own2, h.tb, Nat.le_trans h.sz hz⟩

theorem Kept.drew {base t : Nat} {a b : World} (h : Kept base t a b) : Kept base t a b.drew := ⟨h.os, h.tape, h.output, h.size, h.block⟩

set_option maxRecDepth 100000 in
set_option maxHeartbeats 1000000 in
theorem others_any (F : Interp) (p t sc : Nat) (q h g : Value) (oa : Option Addr) (ob n cap : Nat) (os : Nat → ByteArray) (f kd at_ : Int) (pr s : ByteArray) (ea : Addr) (w : World) (hF : F.answers w.tape) (hn : n ≤ 1024)
    (hp : w.heap[p]? = some (.cells (procCells (.slice oa n cap) (.iface 28 (.pointer (some ⟨t, 0, none⟩))) q h g sc .nilIface) 49 (0, 0)))
    (ht : w.heap[t]? = some (.cells #[.int .i64 f, .iface 62 (.pointer (some ea)), .int .i64 0, .slice none 0 0, .slice none 0 0] 31 (0, 0)))
    (hsc : w.heap[sc]? = some (.chan 0 #[] false 0 0 false)) (hs : w.cell? ea = some (.string s)) (hea : ea.block < w.heap.size) (het : ea.block ≠ t) (hep : ea.block ≠ p)
    (ho : ∀ j, j < n → oa = some ⟨ob, 0, none⟩ ∧ w.cell? ⟨ob, j, none⟩ = some (.string (os j))) (hob : ob < w.heap.size) (hobt : ob ≠ t) :
    Calls Ybaf.prog 6 #[.pointer (some ⟨p, 0, none⟩), .int .u8 kd, .agg #[.int .u64 at_, .string pr, .slice none 0 0]] w fun e w' =>
      ((∀ j, j < n → (j : Int) ≠ f) ∧ e = .returned .nilIface ∧ (∃ tv mv, Tr w' t (w.heap.size + 1) f (.iface 62 (.pointer (some ea))) n (toL os n) (msgL kd at_ pr n) tv mv) ∧ Kept w.heap.size t w w') ∨
      (∃ j : Nat, j < n ∧ (j : Int) = f ∧ ∃ eb, e = .returned (.iface 85 (.pointer (some ⟨eb, 0, none⟩))) ∧ w'.cell? ⟨p, 11, none⟩ = some (.iface 85 (.pointer (some ⟨eb, 0, none⟩))) ∧ w'.cell? ⟨eb, 1, none⟩ = some (.iface 62 (.pointer (some ea))) ∧
        (∃ tv mv, Tr w' t (w.heap.size + 1) f (.iface 62 (.pointer (some ea))) (j + 1) (toL os (j + 1)) (msgL kd at_ pr (j + 1)) tv mv) ∧ w.heap.size ≤ w'.heap.size ∧ w'.os = w.os ∧ w'.tape = w.tape ∧ w'.output = w.output ∧ ∀ i, i < w.heap.size → i ≠ t → i ≠ p → i ≠ sc → w'.heap[i]? = w.heap[i]?) := by
  have hpl : p < w.heap.size := (Array.getElem?_eq_some_iff.1 hp).1
  have htl : t < w.heap.size := (Array.getElem?_eq_some_iff.1 ht).1
  have hscl : sc < w.heap.size := (Array.getElem?_eq_some_iff.1 hsc).1
  have htp : t ≠ p := by intro e; rw [e, hp] at ht; simp [procCells] at ht
  have hts : t ≠ sc := by intro e; rw [e, hsc] at ht; cases ht
  have c3 : w.cell? ⟨p, 3, none⟩ = some (.slice oa n cap) := by simp [World.cell?, hp, procCells]
  have c5 : w.cell? ⟨p, 5, none⟩ = some (.iface 28 (.pointer (some ⟨t, 0, none⟩))) := by simp [World.cell?, hp, procCells]
  have k1 := nilAheadSend ⟨t, 0, none⟩
  have k2 := methodSend ⟨t, 0, none⟩
  have H0 := hide (show Tr (w.alloc (.cells #[.int .u64 at_, .string pr, .slice none 0 0] 55)) t (w.heap.size + 1) f (.iface 62 (.pointer (some ea))) 0 (toL os 0) (msgL kd at_ pr 0) (.slice none 0 0) (.slice none 0 0) from
    ⟨(Below.heap_alloc _ _ _ htl).trans ht, World.ownsRow_nil _ _ _ _, World.ownsRow_nil _ _ _ _, by omega, by simp⟩)
  have HP := hide hp
  have HSC := hide hsc
  have HS := hide hs
  have HO := hide ho
  have HFF := hide hF
  clear hp ht hsc hs ho hF
  go_enter Ybaf.func6, Ybaf.ntmps6
  go_wp2
  go_loopw [15] (fun i wr => ∃ k : Nat, ∃ tv mv, k ≤ n ∧ i = .int .i64 k ∧ (∀ j, j < k → (j : Int) ≠ f) ∧ Tr wr t (w.heap.size + 1) f (.iface 62 (.pointer (some ea))) k (toL os k) (msgL kd at_ pr k) tv mv ∧ Kept (w.heap.size + 1) t (w.alloc (.cells #[.int .u64 at_, .string pr, .slice none 0 0] 55)) wr) (fun i _ => n - (intOf i).toNat)
  case atStart => exact ⟨0, _, _, Nat.zero_le _, rfl, fun j hj => absurd hj (Nat.not_lt_zero _), H0.out, Kept.refl _ _ _⟩
  case round =>
    clear H0
    obtain ⟨k, tv, mv, hk, rfl, hno, hT, hK⟩ := hrel
    have HT := hide hT
    have HK := hide hK
    have HNO := hide hno
    have hsame : ∀ i, i < w.heap.size → i ≠ t → wr.heap[i]? = w.heap[i]? := fun i hi hit => (hK.block i (by omega) hit).trans (Below.heap_alloc _ _ _ hi)
    clear hT hno
    by_cases hlt : k < n
    · obtain ⟨rfl, hoc⟩ := HO.out k hlt
      have d0 : wr.cell? ⟨ob, k, none⟩ = some (.string (os k)) := (World.cell?_of_block (a := ⟨ob, k, none⟩) (hsame ob hob hobt)).trans hoc
      have d5 : wr.cell? ⟨p, 5, none⟩ = some (.iface 28 (.pointer (some ⟨t, 0, none⟩))) := (World.cell?_of_block (a := ⟨p, 5, none⟩) (hsame p hpl (Ne.symm htp))).trans c5
      have hbx := hK.block w.heap.size (by omega) (by omega)
      have e0 : wr.cell? ⟨w.heap.size, 0, none⟩ = some (.int .u64 at_) := (World.cell?_of_block (a := ⟨w.heap.size, 0, none⟩) hbx).trans (by simp)
      have e1 : wr.cell? ⟨w.heap.size, 1, none⟩ = some (.string pr) := (World.cell?_of_block (a := ⟨w.heap.size, 1, none⟩) hbx).trans (by simp)
      have e2 : wr.cell? ⟨w.heap.size, 2, none⟩ = some (.slice none 0 0) := (World.cell?_of_block (a := ⟨w.heap.size, 2, none⟩) hbx).trans (by simp)
      have HSM := hide hsame
      clear hsame hK hbx hoc
      go_upto_region 4 with fail
      go_region_with (go_at_call 28; refine (send_any t (w.heap.size + 1) f (.iface 62 (.pointer (some ea))) k (toL os k) (msgL kd at_ pr k) tv mv (os k) pr kd at_ _ (by omega) (.inr ⟨_, _, rfl⟩) ?_).mono ?_; exact ⟨HT.out.blk, HT.out.own1, HT.out.own2, HT.out.tb, HT.out.sz⟩; rintro e w' ⟨rfl, ⟨tv', mv', hT'⟩, hK'⟩)
      all_goals
        have hK2 := HK.out.drew.trans hK'
        have hT2 : Tr w' t (w.heap.size + 1) f (.iface 62 (.pointer (some ea))) (k + 1) (toL os (k + 1)) (msgL kd at_ pr (k + 1)) tv' mv' := by rw [toL_succ]; exact hT'
        have HT2 := hide hT2
        have HK2 := hide hK2
        have hsame2 : ∀ i, i < w.heap.size → i ≠ t → w'.heap[i]? = w.heap[i]? := fun i hi hit => (hK2.block i (by omega) hit).trans (Below.heap_alloc _ _ _ hi)
        clear hT' hK' hT2 d0 d5 e0 e1 e2 HT HK
        by_cases hkf : (k : Int) = f
        · have hr : sendRes k f (.iface 62 (.pointer (some ea))) = .iface 62 (.pointer (some ea)) := if_pos hkf
          rw [hr]
          have HKF := hide hkf
          have HST := hide (stop_any F p sc _ _ _ _ _ ea s w' (show F.answers w'.tape by rw [hK2.tape]; exact HFF.out) ((hsame2 p hpl (Ne.symm htp)).trans HP.out) ((hsame2 sc hscl (Ne.symm hts)).trans HSC.out) ((World.cell?_of_block (a := ea) (hsame2 ea.block hea het)).trans HS.out) (by have := hK2.size; simp at this; omega))
          have HSM2 := hide hsame2
          clear hr hkf hK2 hsame2
          go_wp2_with (go_at_call 8; refine Calls.mono HST.out ?_; rintro e w2 ⟨eb, rfl, g1, g2, g3, g4, g5, g6, g7⟩)
          have hsz : w.heap.size + 1 ≤ w'.heap.size := by have := HK2.out.size; simp at this; omega
          go_ret
          exact .inr ⟨k, hlt, HKF.out, eb, rfl, g1, g2, ⟨_, _, HT2.out.later g3 g4 (by omega) (by omega) htp hts⟩, by omega, g5.trans HK2.out.os, g6.trans HK2.out.tape, g7.trans HK2.out.output, fun i hi h1 h2 h3 => (g3 i (by omega) h2 h3).trans (HSM2.out i hi h1)⟩
        · have hr : sendRes k f (.iface 62 (.pointer (some ea))) = .nilIface := if_neg hkf
          rw [hr]
          have HKF := hide hkf
          clear hr hkf hK2 hsame2
          go_wp2
          go_roundw
          case rel => exact ⟨k + 1, _, _, by omega, by go_num, fun j hj => if e : j = k then by rw [e]; exact HKF.out else HNO.out j (by omega), HT2.out, HK2.out⟩
          case measure => simp [intOf]; omega
    · obtain rfl : k = n := by omega
      clear hsame
      go_wp2
      go_ret
      exact .inl ⟨HNO.out, rfl, ⟨_, _, HT.out⟩, ⟨hK.os, hK.tape, hK.output, by have := hK.size; simp at this; omega, fun i hi hit => (hK.block i (by omega) hit).trans (Below.heap_alloc _ _ _ hi)⟩⟩
end Go.Proofs.YbulkdzwFmt
