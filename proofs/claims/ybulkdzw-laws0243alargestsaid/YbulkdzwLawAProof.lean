import Derived.Test.YbulkdzwLawA
import Derived.ProofKit
import Derived.OpenShut
import Derived.ShutString
import Derived.ChangeOld
import Derived.Below
import Derived.Deep.Grids
set_option linter.unusedVariables false
namespace Go.Proofs.Ybulkdzw.LawA
open Go.ChangeShapes Go.WideShapes Go.ChangeAt Go.RowKit

theorem own : ownKnob Yba.prog.godebug = none := by kernel_rfl
theorem laidOut : laidOutB Yba.prog = true := by kernel_rfl

set_option maxRecDepth 100000 in
theorem law_big (a0 : Option Addr) (N cap0 : Nat) (a1 : Option Addr) (M cap1 : Nat) (sel : Int) (w : World) (hn : 1024 < N ∨ 1024 < M) (hN : N ≤ maxLen) (hM : M ≤ maxLen) :
    Calls Yba.prog 3 #[.slice a0 N cap0, .slice a1 M cap1, .int .u8 sel] w fun e w' => e = .returned (.bool true) ∧ Below w.heap.size w w' := by
  unfold maxLen at hN hM
  by_cases h : 1024 < N
  · clear hn
    go_enter Yba.func3, Yba.ntmps3
    go_wp2
    go_ret
    exact ⟨rfl, Below.refl _ _⟩
  · have h2 : 1024 < M := by omega
    clear hn
    go_enter Yba.func3, Yba.ntmps3
    go_wp2
    go_ret
    exact ⟨rfl, Below.refl _ _⟩

set_option maxRecDepth 100000 in
set_option maxHeartbeats 1000000 in
theorem law_none (a0 : Option Addr) (cap0 : Nat) (a1 : Option Addr) (M cap1 : Nat) (sel : Int) (w : World) (hM : M ≤ 1024) (hs0 : 0 ≤ sel) (hs1 : sel ≤ 255) :
    Calls Yba.prog 3 #[.slice a0 0 cap0, .slice a1 M cap1, .int .u8 sel] w fun e w' => e = .returned (.bool true) ∧ Below w.heap.size w w' := by
  obtain ⟨i33, hi33, hz33, hs33, hb33⟩ := info_parts Yba.info33
  obtain ⟨t, ht⟩ : ∃ t : Nat, sel % 5 = (t : Int) := ⟨(sel % 5).toNat, by omega⟩
  have ht5 : t < 5 := by omega
  have HT := hide ht
  clear ht
  go_enter Yba.func3, Yba.ntmps3
  go_wp2_with (at_make; refine wpList_make_full _ rfl _ _ 24 rfl w.heap.size 33 i33 _ 6 Yba.underlying24 hi33 hz33 hs33 _ _ _ _ 0 rfl rfl rfl rfl (by omega) (by unfold maxLen; omega) (Nat.le_refl _) ?_; intro w1 hown1 hgrow1)
  have bel1 : Below w.heap.size w w1 := (Below.refl _ _).grown hgrow1 (Nat.le_refl _) (fun k e => by cases e)
  clear hown1 hgrow1
  refine wp_loop_rounds 1 ?_
  rw [rounds_succ]
  go_upto_region 24 with fail
  rw [HT.out]
  go_upto_region 27 with (first
    | (go_at_call 5; refine (host_any t _ ht5).mono ?_; rintro e w' ⟨rfl, rfl⟩)
    | (go_at_call 6; refine (largest_none w1.heap.size t none 0 _).mono ?_; rintro e w' ⟨rfl, hbw⟩))
  have belf : Below w.heap.size w w' := bel1.trans (((Below.refl w1.heap.size w1).alloc (Nat.le_refl _) _ |>.trans (hbw.mono (by simp))).mono bel1.size)
  clear hbw
  by_cases t4 : t < 4
  · go_wp2
    refine wp_loop_rounds 1 ?_
    rw [rounds_succ]
    go_wp2
    go_ret
    exact ⟨rfl, belf⟩
  · go_wp2
    go_ret
    exact ⟨rfl, belf⟩

theorem addr_of {w : World} {x : Addr} {v : Value} (h : w.cell? (x.add 0) = some v) : ∃ b o, x = ⟨b, o, none⟩ ∧ b < w.heap.size := by
  obtain ⟨b, o, s⟩ := x
  have hs : s = none := by simpa [Addr.add] using World.cell?_spot h
  subst hs
  refine ⟨b, o, rfl, ?_⟩
  by_cases hb : b < w.heap.size
  · exact hb
  · simp [World.cell?, Addr.add, Array.getElem?_eq_none (Nat.le_of_not_lt hb)] at h

/-- The number in a cell. -/
def numAt (w : World) (a : Addr) : Int := match w.cell? a with | some (.int _ n) => n | _ => 0

theorem row4 {H : Type} {enc : TypeId × Value → H} {w : World} {base fuel : Nat} {sp : Nat → Bool} {held : Bool} {cs : List Value} {x : DataW H × List MemPlace} (h : DataW.trod enc Yba.prog w base sp held fuel 27 cs = some x) :
    ∀ k, k < 4 → ∃ n, cs[k]? = some (.int .u8 n) ∧ (Lit.int .u8 n).wf = true := by
  obtain ⟨xs, m, _, _, hcl, hxl, hx⟩ := DataW.trod_array Yba.underlying27 h
  have e1 : Yba.prog.cellsOf 5 = 1 := by kernel_rfl
  intro k hk
  have := hx k hk
  rw [e1, List.getElem?_eq_getElem (by omega)] at this
  obtain ⟨n, h1, _, h3⟩ := DataW.trod_int Yba.underlying5 this
  refine ⟨n, ?_, h3⟩
  have e2 : ((cs.drop (k * 1)).take 1)[0]? = some (.int .u8 n) := by rw [h1]; rfl
  simpa using e2

set_option maxRecDepth 100000 in
theorem lifted (os : Os) (started : os.Started) (H : Type) (enc : TypeId × Value → H) :
    ReturnsInHanded {} Yba.checked os 3 .any (Rows.lawS0243ALargestSpec.pre6 enc Yba.prog Yba.f3 Rows.lawS0243ALargestRow.domain false) (Rows.lawS0243ALargestSpec.post enc Yba.prog Yba.f3 false true false false) := by
  refine returnsInHanded_of_change (C := Yba.checked) own started (by kernel_rfl) Yba.func3
    (ChangeSpec.witness6 (enc := enc) (C := Yba.checked) false ⟨#[], #[.slice none 0 0, .slice none 0 0, .int .u8 0], []⟩ 8 (by kernel_rfl) (by kernel_rfl) (by kernel_rfl) (by kernel_rfl)) ?_
  intro W base args ds gs before hval0 hW hcnd _
  have hval : ∀ (j : Nat) t v, Yba.f3.params[j]? = some t → args[j]? = some v → Value.okWide Yba.prog W .any base t v := hval0
  have hW' := hW
  obtain ⟨p, q, hA0, hV, rfl, hfz, hnd⟩ := hW
  have hA : DataW.TrodAll enc Yba.prog W 0 (fun _ => true) true Yba.f3.params.toList args.toList ds p := hA0
  rw [Yba.params3] at hA hval
  obtain ⟨v0, vs0, d0, ds0, p0, q0, hargs, rfl, rfl, h0, r0⟩ := trodAll_cons hA
  obtain ⟨v1, vs1, d1, ds1, p1, q1, rfl, rfl, rfl, h1, r1⟩ := trodAll_cons r0
  obtain ⟨v2, vs2, d2, ds2, p2, q2, rfl, rfl, rfl, h2, r2⟩ := trodAll_cons r1
  obtain ⟨rfl, rfl, rfl⟩ := trodAll_nil r2
  obtain rfl : args = #[v0, v1, v2] := by cases args; simp_all
  obtain ⟨rfl, rfl⟩ := trodVars_none hV
  obtain ⟨a0, len0, cap0, rfl⟩ := okWide_slice Yba.underlying22 (hval 0 22 v0 rfl rfl)
  obtain ⟨a1, len1, cap1, rfl⟩ := okWide_slice Yba.underlying23 (hval 1 23 v1 rfl rfl)
  obtain ⟨a2, rfl, rfl, rfl, w2⟩ := open_int Yba.underlying5 (hval 2 5 v2 rfl rfl) h2
  have k0 := h0
  have k1 := h1
  have lt0 : ∀ x ∈ p0, x.block < W.heap.size := by obtain ⟨m, hm⟩ := k0; exact DataW.trod_lt m _ _ _ hm
  have lt1 : ∀ x ∈ p1, x.block < W.heap.size := by obtain ⟨m, hm⟩ := k1; exact DataW.trod_lt m _ _ _ hm
  obtain ⟨hm0, b0, o0, cx, ha0, hc0⟩ : len0 ≤ maxLen ∧ ∃ (b0 o0 : Nat) (cx : Nat → Nat → Int), (0 < len0 → a0 = some ⟨b0, o0, none⟩ ∧ b0 < W.heap.size) ∧ ∀ i k, i < len0 → k < 4 → W.cell? ⟨b0, o0 + i * 4 + k, none⟩ = some (.int .u8 (cx i k)) ∧ 0 ≤ cx i k ∧ cx i k ≤ 255 := by
    obtain ⟨fuel, hf⟩ := h0
    have e4 : Yba.prog.cellsOf 27 = 4 := by kernel_rfl
    rcases Deep.open_slice Yba.underlying22 hf with ⟨hcs, _⟩ | ⟨x, l, c, m, n, D, Pl, hcs, _, hl, hm, hmm, _, hcell⟩
    · simp [Value.cells] at hcs
      obtain ⟨rfl, rfl, rfl⟩ := hcs
      exact ⟨Nat.zero_le _, 0, 0, fun _ _ => 0, fun h => absurd h (Nat.lt_irrefl _), fun j _ h => absurd h (Nat.not_lt_zero _)⟩
    · simp [Value.cells] at hcs
      obtain ⟨rfl, rfl, rfl⟩ := hcs
      simp only [if_true] at hmm
      subst hmm
      refine ⟨Nat.le_trans hl hm, ?_⟩
      rw [e4] at hcell
      have hx : ∀ i k, i < len0 → k < 4 → ∃ n, W.cell? ((x.add (i * 4)).add k) = some (.int .u8 n) ∧ (Lit.int .u8 n).wf = true := by
        intro i k hi hk
        obtain ⟨cs', hc1, hc2⟩ := hcell i (by omega)
        obtain ⟨n, hn1, hn2⟩ := row4 hc2 k hk
        have := (World.cells?_some hc1).2.2 k hk
        exact ⟨n, by rw [this, hn1], hn2⟩
      by_cases h0 : 0 < len0
      · obtain ⟨n0, hn0, _⟩ := hx 0 0 h0 (by omega)
        have hn0' : W.cell? (x.add 0) = some (.int .u8 n0) := by simpa [Addr.add] using hn0
        obtain ⟨b, o, rfl, hb⟩ := addr_of hn0'
        refine ⟨b, o, fun i k => numAt W ⟨b, o + i * 4 + k, none⟩, fun _ => ⟨rfl, hb⟩, fun i k hi hk => ?_⟩
        obtain ⟨n, hn, hw⟩ := hx i k hi hk
        rw [add_plain, add_plain] at hn
        have e : numAt W ⟨b, o + i * 4 + k, none⟩ = n := by simp [numAt, hn]
        simp only [e]
        have := bounds_u8 hw
        exact ⟨hn, this.1, this.2⟩
      · exact ⟨0, 0, fun _ _ => 0, fun h => absurd h h0, fun j _ h => absurd (Nat.lt_of_le_of_lt (Nat.zero_le _) h) h0⟩
  obtain ⟨hm1, b1, o1, fo, ha1, hc1⟩ : len1 ≤ maxLen ∧ ∃ (b1 o1 : Nat) (fo : Nat → Int), (0 < len1 → a1 = some ⟨b1, o1, none⟩ ∧ b1 < W.heap.size) ∧ ∀ j, j < len1 → W.cell? ⟨b1, o1 + j, none⟩ = some (.int .u8 (fo j)) ∧ 0 ≤ fo j ∧ fo j ≤ 255 := by
    obtain ⟨fuel, hf⟩ := h1
    rcases open_ints Yba.underlying23 Yba.underlying5 (by kernel_rfl) hf with ⟨hcs, _⟩ | ⟨x, l, c, zs, hcs, _, hl, hm, hz, _, hcell, hwz⟩
    · simp [Value.cells] at hcs
      obtain ⟨rfl, rfl, rfl⟩ := hcs
      exact ⟨Nat.zero_le _, 0, 0, fun _ => 0, fun h => absurd h (Nat.lt_irrefl _), fun j h => absurd h (Nat.not_lt_zero _)⟩
    · simp [Value.cells] at hcs
      obtain ⟨rfl, rfl, rfl⟩ := hcs
      refine ⟨Nat.le_trans hl hm, ?_⟩
      by_cases h0 : 0 < len1
      · simp only [if_true] at hz
        obtain ⟨b, o, rfl, hb⟩ := addr_of (hcell 0 (by omega))
        refine ⟨b, o, fun j => zs.getD j 0, fun _ => ⟨rfl, hb⟩, fun j hj => ⟨by rw [← add_plain]; exact hcell j (by omega), ?_⟩⟩
        have hw := hwz (zs.getD j 0) (by rw [List.getD, List.getElem?_eq_getElem (by omega)]; exact List.getElem_mem _)
        have := bounds_u8 hw
        exact ⟨this.1, this.2⟩
      · exact ⟨0, 0, fun _ => 0, fun h => absurd h h0, fun j h => absurd (Nat.lt_of_le_of_lt (Nat.zero_le _) h) h0⟩
  clear hA0 hval0
  have hb2 := bounds_u8 w2
  have fin : Calls Yba.prog 3 #[.slice a0 len0 cap0, .slice a1 len1 cap1, .int .u8 a2] W fun e w' => e = .returned (.bool true) ∧ Below W.heap.size W w' := by
    by_cases hb : 1024 < len0 ∨ 1024 < len1
    · exact law_big a0 len0 cap0 a1 len1 cap1 a2 W hb hm0 hm1
    · by_cases hz : len0 = 0
      · subst hz
        exact law_none a0 cap0 a1 len1 cap1 a2 W (by omega) hb2.1 hb2.2
      · obtain ⟨rfl, hlt⟩ := ha0 (by omega)
        exact lawA_walk b0 o0 len0 cap0 a1 len1 cap1 a2 W b1 o1 cx fo (by omega) (by omega) (by omega) hlt hc0 ha1 hc1 hb2.1 hb2.2
  refine fin.mono fun e W' ⟨he, bel⟩ => ?_
  subst he
  exact ⟨_, rfl, _, _, _, [], _, [], hW', trodAll_mk1 (shut_bool Yba.underlying4 _), (trodAll_cons_mk (Below.trod laidOut (by kernel_rfl) (of_decide_eq_true (by kernel_rfl)) k0 bel lt0) (trodAll_cons_mk (Below.trod laidOut (by kernel_rfl) (of_decide_eq_true (by kernel_rfl)) k1 bel lt1) (trodAll_cons_mk (shut_int Yba.underlying5 w2) trodAll_mk0))), rfl, bel.frame _, fun h => by cases h⟩

theorem over : Rows.lawS0243ALargestRow.holds Yba.pinned (OpenSpec.ofChange Rows.lawS0243ALargestSpec) :=
  OpenClaim.holds_of_wide 3 Yba.f3 rfl rfl rfl rfl rfl rfl rfl ⟨rfl, rfl, rfl, rfl, rfl⟩ rfl rfl rfl rfl rfl (by kernel_rfl) Yba.func3 (by kernel_rfl)
    (of_decide_eq_true (by kernel_rfl)) (by unfold Func.isWrapper; first | (rw [if_pos (by decide +kernel)]; kernel_rfl) | (rw [if_neg (by decide +kernel)]; exact ⟨rfl, rfl⟩))
    (fun os started H enc _ => lifted os started H enc)

end Go.Proofs.Ybulkdzw.LawA
namespace Go.Proofs.Ybulkdzw
theorem lawA_proved : Rows.LawS0243ALargestSaid := LawA.over
#print axioms lawA_proved
end Go.Proofs.Ybulkdzw
