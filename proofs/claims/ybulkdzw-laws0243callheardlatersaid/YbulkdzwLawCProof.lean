import Derived.Test.YbulkdzwLawC
import Derived.ProofKit
import Derived.OpenShut
import Derived.ShutString
import Derived.ChangeOld
import Derived.Below
import Derived.Deep.Grids
namespace Go.Proofs.Ybulkdzw
open Go.ChangeShapes Go.WideShapes Go.ChangeAt Go.RowKit

theorem Yba.own : ownKnob Yba.prog.godebug = none := by kernel_rfl
theorem Yba.laidOut : laidOutB Yba.prog = true := by kernel_rfl

theorem law_big (t : Int) (b : Bool) (a2 : Option Addr) (n cap2 : Nat) (a3 : Option Addr) (m cap3 : Nat) (w : World) (hn : 1024 < n) (hm : n ≤ maxLen) :
    Calls Yba.prog 4 #[.int .u64 t, .bool b, .slice a2 n cap2, .slice a3 m cap3] w fun e w' => e = .returned (.bool true) ∧ Below w.heap.size w w' := by
  unfold maxLen at hm
  go_enter Yba.func4, Yba.ntmps4
  go_wp2
  go_ret
  exact ⟨rfl, Below.refl _ _⟩

theorem addr_of {w : World} {x : Addr} {v : Value} (h : w.cell? (x.add 0) = some v) : ∃ b o, x = ⟨b, o, none⟩ ∧ b < w.heap.size := by
  obtain ⟨b, o, s⟩ := x
  have hs : s = none := by simpa [Addr.add] using World.cell?_spot h
  subst hs
  refine ⟨b, o, rfl, ?_⟩
  by_cases hb : b < w.heap.size
  · exact hb
  · simp [World.cell?, Addr.add, Array.getElem?_eq_none (Nat.le_of_not_lt hb)] at h

set_option maxRecDepth 100000 in
theorem lawC_lifted (os : Os) (started : os.Started) (H : Type) (enc : TypeId × Value → H) :
    ReturnsInHanded {} Yba.checked os 4 .any (Rows.lawS0243CAllHeardLaterSpec.pre6 enc Yba.prog Yba.f4 Rows.lawS0243CAllHeardLaterRow.domain false) (Rows.lawS0243CAllHeardLaterSpec.post enc Yba.prog Yba.f4 false true false false) := by
  refine returnsInHanded_of_change (C := Yba.checked) Yba.own started (by kernel_rfl) Yba.func4
    (ChangeSpec.witness6 (enc := enc) (C := Yba.checked) false ⟨#[], #[.int .u64 0, .bool false, .slice none 0 0, .slice none 0 0], []⟩ 8 (by kernel_rfl) (by kernel_rfl) (by kernel_rfl) (by kernel_rfl)) ?_
  intro W base args ds gs before hval0 hW hcnd _
  have hval : ∀ (j : Nat) t v, Yba.f4.params[j]? = some t → args[j]? = some v → Value.okWide Yba.prog W .any base t v := hval0
  have hW' := hW
  obtain ⟨p, q, hA0, hV, rfl, hfz, hnd⟩ := hW
  have hA : DataW.TrodAll enc Yba.prog W 0 (fun _ => true) true Yba.f4.params.toList args.toList ds p := hA0
  rw [Yba.params4] at hA hval
  obtain ⟨v0, vs0, d0, ds0, p0, q0, hargs, rfl, rfl, h0, r0⟩ := trodAll_cons hA
  obtain ⟨v1, vs1, d1, ds1, p1, q1, rfl, rfl, rfl, h1, r1⟩ := trodAll_cons r0
  obtain ⟨v2, vs2, d2, ds2, p2, q2, rfl, rfl, rfl, h2, r2⟩ := trodAll_cons r1
  obtain ⟨v3, vs3, d3, ds3, p3, q3, rfl, rfl, rfl, h3, r3⟩ := trodAll_cons r2
  obtain ⟨rfl, rfl, rfl⟩ := trodAll_nil r3
  obtain rfl : args = #[v0, v1, v2, v3] := by cases args; simp_all
  obtain ⟨rfl, rfl⟩ := trodVars_none hV
  obtain ⟨a0, rfl, rfl, rfl, w0⟩ := open_int Yba.underlying29 (hval 0 29 v0 rfl rfl) h0
  obtain ⟨a1, rfl, rfl, rfl⟩ := open_bool Yba.underlying4 (hval 1 4 v1 rfl rfl) h1
  obtain ⟨a2, len2, cap2, rfl⟩ := okWide_slice Yba.underlying43 (hval 2 43 v2 rfl rfl)
  obtain ⟨a3, len3, cap3, rfl⟩ := okWide_slice Yba.underlying44 (hval 3 44 v3 rfl rfl)
  have k2 := h2
  have k3 := h3
  have lt2 : ∀ x ∈ p2, x.block < W.heap.size := by obtain ⟨m, hm⟩ := k2; exact DataW.trod_lt m _ _ _ hm
  have lt3 : ∀ x ∈ p3, x.block < W.heap.size := by obtain ⟨m, hm⟩ := k3; exact DataW.trod_lt m _ _ _ hm
  obtain ⟨hm2, b2, o2, hs, ha2, hc2⟩ : len2 ≤ maxLen ∧ ∃ (b2 o2 : Nat) (hs : Nat → Int), (0 < len2 → a2 = some ⟨b2, o2, none⟩ ∧ b2 < W.heap.size) ∧ ∀ j, j < len2 → W.cell? ⟨b2, o2 + j, none⟩ = some (.int .u64 (hs j)) := by
    obtain ⟨fuel, hf⟩ := h2
    rcases open_ints Yba.underlying43 Yba.underlying29 (by kernel_rfl) hf with ⟨hcs, _⟩ | ⟨x, l, c, zs, hcs, _, hl, hm, hz, _, hcell, hwz⟩
    · simp [Value.cells] at hcs
      obtain ⟨rfl, rfl, rfl⟩ := hcs
      exact ⟨Nat.zero_le _, 0, 0, fun _ => 0, fun h => absurd h (Nat.lt_irrefl _), fun j h => absurd h (Nat.not_lt_zero _)⟩
    · simp [Value.cells] at hcs
      obtain ⟨rfl, rfl, rfl⟩ := hcs
      refine ⟨Nat.le_trans hl hm, ?_⟩
      by_cases h0 : 0 < len2
      · simp only [if_true] at hz
        obtain ⟨b, o, rfl, hb⟩ := addr_of (hcell 0 (by omega))
        exact ⟨b, o, fun j => zs.getD j 0, fun _ => ⟨rfl, hb⟩, fun j hj => by rw [← add_plain]; exact hcell j (by omega)⟩
      · exact ⟨0, 0, fun _ => 0, fun h => absurd h h0, fun j h => absurd (Nat.lt_of_le_of_lt (Nat.zero_le _) h) h0⟩
  obtain ⟨hm3, b3, o3, sk, ha3, hc3⟩ : len3 ≤ maxLen ∧ ∃ (b3 o3 : Nat) (sk : Nat → Bool), (0 < len3 → a3 = some ⟨b3, o3, none⟩ ∧ b3 < W.heap.size) ∧ ∀ j, j < len3 → W.cell? ⟨b3, o3 + j, none⟩ = some (.bool (sk j)) := by
    obtain ⟨fuel, hf⟩ := h3
    rcases Deep.open_bools Yba.underlying44 Yba.underlying4 (by kernel_rfl) hf with ⟨hcs, _⟩ | ⟨x, l, c, B, hcs, _, hl, hm, _, hcell⟩
    · simp [Value.cells] at hcs
      obtain ⟨rfl, rfl, rfl⟩ := hcs
      exact ⟨Nat.zero_le _, 0, 0, fun _ => false, fun h => absurd h (Nat.lt_irrefl _), fun j h => absurd h (Nat.not_lt_zero _)⟩
    · simp [Value.cells] at hcs
      obtain ⟨rfl, rfl, rfl⟩ := hcs
      refine ⟨Nat.le_trans hl hm, ?_⟩
      by_cases h0 : 0 < len3
      · obtain ⟨b, o, rfl, hb⟩ := addr_of (hcell 0 (by omega))
        exact ⟨b, o, B, fun _ => ⟨rfl, hb⟩, fun j hj => by rw [← add_plain]; exact hcell j (by omega)⟩
      · exact ⟨0, 0, fun _ => false, fun h => absurd h h0, fun j h => absurd (Nat.lt_of_le_of_lt (Nat.zero_le _) h) h0⟩
  clear hA0 hval0
  have fin : Calls Yba.prog 4 #[.int .u64 a0, .bool a1, .slice a2 len2 cap2, .slice a3 len3 cap3] W fun e w' => e = .returned (.bool true) ∧ Below W.heap.size W w' := by
    by_cases hb : 1024 < len2
    · exact law_big a0 a1 a2 len2 cap2 a3 len3 cap3 W hb hm2
    · exact law_walk a0 a1 a2 len2 cap2 a3 len3 cap3 W b2 o2 b3 o3 hs sk (by omega) hm3 ha2 hc2 ha3 hc3
  refine fin.mono fun e W' ⟨he, bel⟩ => ?_
  subst he
  exact ⟨_, rfl, _, _, _, [], _, [], hW', trodAll_mk1 (shut_bool Yba.underlying4 _), (trodAll_cons_mk (shut_int Yba.underlying29 w0) (trodAll_cons_mk (shut_bool Yba.underlying4 _) (trodAll_cons_mk (Below.trod Yba.laidOut (by kernel_rfl) (of_decide_eq_true (by kernel_rfl)) k2 bel lt2) (trodAll_cons_mk (Below.trod Yba.laidOut (by kernel_rfl) (of_decide_eq_true (by kernel_rfl)) k3 bel lt3) trodAll_mk0)))), rfl, bel.frame _, fun h => by cases h⟩

theorem lawC_over : Rows.lawS0243CAllHeardLaterRow.holds Yba.pinned (OpenSpec.ofChange Rows.lawS0243CAllHeardLaterSpec) :=
  OpenClaim.holds_of_wide 4 Yba.f4 rfl rfl rfl rfl rfl rfl rfl ⟨rfl, rfl, rfl, rfl, rfl⟩ rfl rfl rfl rfl rfl (by kernel_rfl) Yba.func4 (by kernel_rfl)
    (of_decide_eq_true (by kernel_rfl)) (by unfold Func.isWrapper; first | (rw [if_pos (by decide +kernel)]; kernel_rfl) | (rw [if_neg (by decide +kernel)]; exact ⟨rfl, rfl⟩))
    (fun os started H enc _ => lawC_lifted os started H enc)

theorem lawC_proved : Rows.LawS0243CAllHeardLaterSaid := lawC_over
#print axioms lawC_proved
end Go.Proofs.Ybulkdzw
