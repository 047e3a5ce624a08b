import Derived.Test.YbulkecaScript
import Derived.ProofKit
import Derived.OpenShut
import Derived.ShutString
import Derived.ChangeOld
import Derived.Below
import Derived.Deep.Grids
set_option linter.unusedVariables false
namespace Go.Proofs.Ybulkeca
open Go.ChangeShapes Go.WideShapes Go.ChangeAt Go.RowKit

theorem own : ownKnob Yba.prog.godebug = none := by kernel_rfl
theorem laidOut : laidOutB Yba.prog = true := by kernel_rfl

set_option maxRecDepth 100000 in
theorem script_big (n : Int) (a1 : Option Addr) (N c1 : Nat) (w : World) (hN : 1024 < N) (hm : N ≤ maxLen) :
    Calls Yba.prog 4 #[.int .u8 n, .slice a1 N c1] w fun e w' => e = .returned (.bool true) ∧ Below w.heap.size w w' := by
  unfold maxLen at hm
  go_enter Yba.func4, Yba.ntmps4
  go_wp2
  go_ret
  exact ⟨rfl, Below.refl _ _⟩

theorem addr_of {w : World} {x : Addr} {v : Value} (h : w.cell? (x.add 0) = some v) : ∃ b o, x = ⟨b, o, none⟩ ∧ b < w.heap.size := by
  obtain ⟨b, o, s⟩ := x
  have hs : s = none := by simpa [Addr.add] using World.cell?_spot h
  subst hs
  refine ⟨b, o, rfl, ?_⟩
  by_cases hb : b < w.heap.size
  · exact hb
  · simp [World.cell?, Addr.add, Array.getElem?_eq_none (Nat.le_of_not_lt hb)] at h

/-- The number in a cell. -/
def numAt (w : World) (a : Addr) : Int := match w.cell? a with | some (.int _ n) => n | _ => 0

theorem rec2 {H : Type} {enc : TypeId × Value → H} {w : World} {base fuel : Nat} {sp : Nat → Bool} {held : Bool} {cs : List Value} {x : DataW H × List MemPlace} (h : DataW.trod enc Yba.prog w base sp held fuel 89 cs = some x) :
    (∃ o, cs[0]? = some (.int .u8 o) ∧ (Lit.int .u8 o).wf = true) ∧ ∃ a, cs[1]? = some (.int .i64 a) := by
  obtain ⟨ys, m, _, _, _, hyl, hy⟩ := DataW.trod_struct Yba.underlying89 h
  have e5 : Yba.prog.cellsOf 5 = 1 := by kernel_rfl
  have e3 : Yba.prog.cellsOf 3 = 1 := by kernel_rfl
  have hlen : ys.length = 2 := hyl
  have z0 : DataW.trod enc Yba.prog w base sp held m 5 ((cs.drop 0).take (Yba.prog.cellsOf 5)) = ys[0]? := hy 0 _ rfl
  have z1 : DataW.trod enc Yba.prog w base sp held m 3 ((cs.drop 1).take (Yba.prog.cellsOf 3)) = ys[1]? := hy 1 _ rfl
  rw [e5, List.getElem?_eq_getElem (by omega)] at z0
  rw [e3, List.getElem?_eq_getElem (by omega)] at z1
  obtain ⟨o, o1, _, o3⟩ := DataW.trod_int Yba.underlying5 z0
  obtain ⟨a, b1, _, b3⟩ := DataW.trod_int Yba.underlying3 z1
  refine ⟨⟨o, ?_, o3⟩, a, ?_⟩
  · have e2 : ((cs.drop 0).take 1)[0]? = some (.int .u8 o) := by rw [o1]; rfl
    simpa using e2
  · have e2 : ((cs.drop 1).take 1)[0]? = some (.int .i64 a) := by rw [b1]; rfl
    simpa using e2

theorem bounds_u8 {n : Int} (h : (Lit.int .u8 n).wf = true) : 0 ≤ n ∧ n ≤ 255 := by
  simp [Lit.wf, IntKind.min, IntKind.max, IntKind.signed, IntKind.bits] at h
  omega

set_option maxRecDepth 100000 in
theorem script_lifted (PG : GrowSaid) (os : Os) (started : os.Started) (H : Type) (enc : TypeId × Value → H) :
    ReturnsInHanded {} Yba.checked os 4 .any (Rows.lawS0247CScriptSpec.pre6 enc Yba.prog Yba.f4 Rows.lawS0247CScriptRow.domain false) (Rows.lawS0247CScriptSpec.post enc Yba.prog Yba.f4 false true false false) := by
  refine returnsInHanded_of_change (C := Yba.checked) own started (by kernel_rfl) Yba.func4
    (ChangeSpec.witness6 (enc := enc) (C := Yba.checked) false ⟨#[], #[.int .u8 0, .slice none 0 0], []⟩ 8 (by kernel_rfl) (by kernel_rfl) (by kernel_rfl) (by kernel_rfl)) ?_
  intro W base args ds gs before hval0 hW hcnd _
  have hval : ∀ (j : Nat) t v, Yba.f4.params[j]? = some t → args[j]? = some v → Value.okWide Yba.prog W .any base t v := hval0
  have hW' := hW
  obtain ⟨p, q, hA0, hV, rfl, hfz, hnd⟩ := hW
  have hA : DataW.TrodAll enc Yba.prog W 0 (fun _ => true) true Yba.f4.params.toList args.toList ds p := hA0
  rw [Yba.params4] at hA hval
  obtain ⟨v0, vs0, d0, ds0, p0, q0, hargs, rfl, rfl, h0, r0⟩ := trodAll_cons hA
  obtain ⟨v1, vs1, d1, ds1, p1, q1, rfl, rfl, rfl, h1, r1⟩ := trodAll_cons r0
  obtain ⟨rfl, rfl, rfl⟩ := trodAll_nil r1
  obtain rfl : args = #[v0, v1] := by cases args; simp_all
  obtain ⟨rfl, rfl⟩ := trodVars_none hV
  obtain ⟨n, rfl, rfl, rfl, w0⟩ := open_int Yba.underlying5 (hval 0 5 v0 rfl rfl) h0
  obtain ⟨a1, len1, cap1, rfl⟩ := okWide_slice Yba.underlying85 (hval 1 85 v1 rfl rfl)
  have k1 := h1
  have lt1 : ∀ x ∈ p1, x.block < W.heap.size := by obtain ⟨m, hm⟩ := k1; exact DataW.trod_lt m _ _ _ hm
  obtain ⟨hm1, b0, o0, op, ar, ha1, hc1⟩ : len1 ≤ maxLen ∧ ∃ (b0 o0 : Nat) (op ar : Nat → Int), (0 < len1 → a1 = some ⟨b0, o0, none⟩ ∧ b0 < W.heap.size) ∧ ∀ i, i < len1 → W.cell? ⟨b0, o0 + i * 2, none⟩ = some (.int .u8 (op i)) ∧ W.cell? ⟨b0, o0 + i * 2 + 1, none⟩ = some (.int .i64 (ar i)) ∧ 0 ≤ op i ∧ op i ≤ 255 := by
    obtain ⟨fuel, hf⟩ := h1
    have e2 : Yba.prog.cellsOf 89 = 2 := by kernel_rfl
    rcases Deep.open_slice Yba.underlying85 hf with ⟨hcs, _⟩ | ⟨x, l, c, m, nn, D, Pl, hcs, _, hl, hm, hmm, _, hcell⟩
    · simp [Value.cells] at hcs
      obtain ⟨rfl, rfl, rfl⟩ := hcs
      exact ⟨Nat.zero_le _, 0, 0, fun _ => 0, fun _ => 0, fun h => absurd h (Nat.lt_irrefl _), fun j h => absurd h (Nat.not_lt_zero _)⟩
    · simp [Value.cells] at hcs
      obtain ⟨rfl, rfl, rfl⟩ := hcs
      simp only [if_true] at hmm
      subst hmm
      refine ⟨Nat.le_trans hl hm, ?_⟩
      rw [e2] at hcell
      have hx : ∀ i, i < len1 → ∃ o a, W.cell? ((x.add (i * 2)).add 0) = some (.int .u8 o) ∧ (Lit.int .u8 o).wf = true ∧ W.cell? ((x.add (i * 2)).add 1) = some (.int .i64 a) := by
        intro i hi
        obtain ⟨cs', hc1, hc2⟩ := hcell i (by omega)
        obtain ⟨⟨o, ho1, ho2⟩, a, ha⟩ := rec2 hc2
        have q0 := (World.cells?_some hc1).2.2 0 (by omega)
        have q1 := (World.cells?_some hc1).2.2 1 (by omega)
        exact ⟨o, a, by rw [q0, ho1], ho2, by rw [q1, ha]⟩
      by_cases h0 : 0 < len1
      · obtain ⟨n0, _, hn0, _⟩ := hx 0 h0
        have hn0' : W.cell? (x.add 0) = some (.int .u8 n0) := by simpa [Addr.add] using hn0
        obtain ⟨b, o, rfl, hb⟩ := addr_of hn0'
        refine ⟨b, o, fun i => numAt W ⟨b, o + i * 2, none⟩, fun i => numAt W ⟨b, o + i * 2 + 1, none⟩, fun _ => ⟨rfl, hb⟩, fun i hi => ?_⟩
        obtain ⟨u, a, hn, hw, ha⟩ := hx i hi
        rw [add_plain, add_plain] at hn ha
        have ea : numAt W ⟨b, o + i * 2, none⟩ = u := by simp [numAt, show W.cell? ⟨b, o + i * 2, none⟩ = some (.int .u8 u) from hn]
        have eb : numAt W ⟨b, o + i * 2 + 1, none⟩ = a := by simp [numAt, ha]
        simp only [ea, eb]
        have := bounds_u8 hw
        exact ⟨hn, ha, this.1, this.2⟩
      · exact ⟨0, 0, fun _ => 0, fun _ => 0, fun h => absurd h h0, fun j h => absurd (Nat.lt_of_le_of_lt (Nat.zero_le _) h) h0⟩
  clear hA0 hval0
  have fin : Calls Yba.prog 4 #[.int .u8 n, .slice a1 len1 cap1] W fun e w' => e = .returned (.bool true) ∧ Below W.heap.size W w' := by
    by_cases hb : 1024 < len1
    · exact script_big n a1 len1 cap1 W hb hm1
    · exact script_walk PG n a1 len1 cap1 W b0 o0 op ar (by omega) (bounds_u8 w0).1 (bounds_u8 w0).2 ha1 hc1
  refine fin.mono fun e W' ⟨he, bel⟩ => ?_
  subst he
  exact ⟨_, rfl, _, _, _, [], _, [], hW', trodAll_mk1 (shut_bool Yba.underlying4 _), (trodAll_cons_mk (shut_int Yba.underlying5 w0) (trodAll_cons_mk (Below.trod laidOut (by kernel_rfl) (of_decide_eq_true (by kernel_rfl)) k1 bel lt1) trodAll_mk0)), rfl, bel.frame _, fun h => by cases h⟩

theorem script_over (PG : GrowSaid) : Rows.lawS0247CScriptRow.holds Yba.pinned (OpenSpec.ofChange Rows.lawS0247CScriptSpec) :=
  OpenClaim.holds_of_wide 4 Yba.f4 rfl rfl rfl rfl rfl rfl rfl ⟨rfl, rfl, rfl, rfl, rfl⟩ rfl rfl rfl rfl rfl (by kernel_rfl) Yba.func4 (by kernel_rfl)
    (of_decide_eq_true (by kernel_rfl)) (by unfold Func.isWrapper; first | (rw [if_pos (by decide +kernel)]; kernel_rfl) | (rw [if_neg (by decide +kernel)]; exact ⟨rfl, rfl⟩))
    (fun os started H enc _ => script_lifted PG os started H enc)
end Go.Proofs.Ybulkeca
