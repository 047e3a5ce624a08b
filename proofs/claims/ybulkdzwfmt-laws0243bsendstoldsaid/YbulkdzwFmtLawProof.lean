import Derived.Test.YbulkdzwFmtLaw
import Derived.Test.YbulkdzwFmtCards
import Derived.ProofKit
import Derived.OpenShut
import Derived.ShutString
import Derived.ChangeOld
import Derived.Below
import Derived.SliceStrings
import Derived.Stop.JoinedTold
import Derived.SevenToldRow
import Derived.ChangeMaps5
import Derived.Deep.Grids
set_option linter.unusedVariables false
namespace Go.Proofs.YbulkdzwFmt
open Go.ChangeShapes Go.WideShapes Go.ChangeAt Go.RowKit
open Go.Extern.Stop Go.Stop Go.Extern

theorem own : ownKnob Ybaf.prog.godebug = none := by kernel_rfl
theorem laidOut : laidOutB Ybaf.pinned.checked.prog = true := by kernel_rfl
theorem laidOut' : laidOutB Ybaf.prog = true := laidOut
theorem stops : Ybaf.pinned.checked.prog.stops = ["fmt.errorf"] := by kernel_rfl
theorem stopKnobs : Ybaf.pinned.checked.prog.stopKnobs = [] := by kernel_rfl
theorem quiet (os : Os) : Stop.quiet Ybaf.pinned.checked.prog os := by
  intro k hk
  rw [stopKnobs] at hk
  cases hk

theorem addr_of {w : World} {x : Addr} {v : Value} (h : w.cell? (x.add 0) = some v) : ∃ b o, x = ⟨b, o, none⟩ ∧ b < w.heap.size := by
  obtain ⟨b, o, s⟩ := x
  have hs : s = none := by simpa [Addr.add] using World.cell?_spot h
  subst hs
  refine ⟨b, o, rfl, ?_⟩
  by_cases hb : b < w.heap.size
  · exact hb
  · simp [World.cell?, Addr.add, Array.getElem?_eq_none (Nat.le_of_not_lt hb)] at h

set_option maxRecDepth 100000 in
theorem sends_lifted (os : Os) (started : os.Started) (H : Type) (enc : TypeId × Value → H) :
    ReturnsInTold none {} Ybaf.checked os 3 .any Input.okWide ((OpenSpec.ofChange Rows.lawS0243BSendsSpec).preRow enc Ybaf.prog Ybaf.f3 [] false []) (fun F => ((OpenSpec.ofChange Rows.lawS0243BSendsSpec).at F).post enc Ybaf.prog Ybaf.f3 false true false false) (aloneAtReturn Ybaf.prog) nothingAlways := by
  refine returnsInTold_of_row (C := Ybaf.checked) (s := OpenSpec.ofChange Rows.lawS0243BSendsSpec) (by kernel_rfl) own started (by kernel_rfl) Ybaf.func3
    (OpenSpec.witness_stopped (enc := enc) (C := Ybaf.checked) false ⟨#[], #[.slice none 0 0, .int .u8 0, .int .u64 0, .string { data := #[] }, .int .u16 0], []⟩ 8 (by kernel_rfl) (by kernel_rfl) (by kernel_rfl) (by kernel_rfl)) ?_
  intro F W base args ds gs before _ hF hval0 hW _ _ _ _ _
  have hval : ∀ (j : Nat) t v, Ybaf.f3.params[j]? = some t → args[j]? = some v → Value.okWide Ybaf.prog W .any base t v := hval0
  have hW' := hW
  obtain ⟨p, q, hA0, hV, rfl, hfz, hnd⟩ := hW
  have hA : DataW.TrodAll enc Ybaf.prog W 0 (fun _ => true) true Ybaf.f3.params.toList args.toList ds p := hA0
  rw [Ybaf.params3] at hA hval
  obtain ⟨v0, vs0, d0, ds0, p0, q0, hargs, rfl, rfl, h0, r0⟩ := trodAll_cons hA
  obtain ⟨v1, vs1, d1, ds1, p1, q1, rfl, rfl, rfl, h1, r1⟩ := trodAll_cons r0
  obtain ⟨v2, vs2, d2, ds2, p2, q2, rfl, rfl, rfl, h2, r2⟩ := trodAll_cons r1
  obtain ⟨v3, vs3, d3, ds3, p3, q3, rfl, rfl, rfl, h3, r3⟩ := trodAll_cons r2
  obtain ⟨v4, vs4, d4, ds4, p4, q4, rfl, rfl, rfl, h4, r4⟩ := trodAll_cons r3
  obtain ⟨rfl, rfl, rfl⟩ := trodAll_nil r4
  obtain rfl : args = #[v0, v1, v2, v3, v4] := by cases args; simp_all
  obtain ⟨rfl, rfl⟩ := trodVars_none hV
  obtain ⟨a0, len0, cap0, rfl⟩ := okWide_slice Ybaf.underlying22 (hval 0 22 v0 rfl rfl)
  obtain ⟨kd, rfl, rfl, rfl, w1⟩ := open_int Ybaf.underlying5 (hval 1 5 v1 rfl rfl) h1
  obtain ⟨at_, rfl, rfl, rfl, w2⟩ := open_int Ybaf.underlying23 (hval 2 23 v2 rfl rfl) h2
  have k3 := h3
  obtain ⟨pr, rfl, rfl, rfl, w3⟩ := Go.ChangeMaps.open_string Ybaf.underlying9 (hval 3 9 v3 rfl rfl) h3
  obtain ⟨fa, rfl, rfl, rfl, w4⟩ := open_int Ybaf.underlying24 (hval 4 24 v4 rfl rfl) h4
  have k0 := h0
  have lt0 : ∀ x ∈ p0, x.block < W.heap.size := by obtain ⟨m, hm⟩ := k0; exact DataW.trod_lt m _ _ _ hm
  have fb : 0 ≤ fa ∧ fa ≤ 65535 := by
    have h := w4
    simp [Lit.wf, IntKind.min, IntKind.max, IntKind.signed, IntKind.bits] at h
    omega
  obtain ⟨hm0, hnil, b0, o0, os0, ha0, hc0⟩ : len0 ≤ maxLen ∧ (a0 = none → len0 = 0 ∧ cap0 = 0) ∧ ∃ (b0 o0 : Nat) (os0 : Nat → ByteArray), (0 < len0 → a0 = some ⟨b0, o0, none⟩ ∧ b0 < W.heap.size) ∧ ∀ j, j < len0 → W.cell? ⟨b0, o0 + j, none⟩ = some (.string (os0 j)) := by
    obtain ⟨fuel, hf⟩ := h0
    rcases open_strings Ybaf.underlying22 Ybaf.underlying9 (by kernel_rfl) hf with ⟨hcs, _⟩ | ⟨x, l, c, ss, hcs, _, hl, hm, hz, _, hcell, _⟩
    · simp [Value.cells] at hcs
      obtain ⟨rfl, rfl, rfl⟩ := hcs
      exact ⟨Nat.zero_le _, fun _ => ⟨rfl, rfl⟩, 0, 0, fun _ => ByteArray.empty, fun h => absurd h (Nat.lt_irrefl _), fun j h => absurd h (Nat.not_lt_zero _)⟩
    · simp [Value.cells] at hcs
      obtain ⟨rfl, rfl, rfl⟩ := hcs
      refine ⟨Nat.le_trans hl hm, (fun e => by cases e), ?_⟩
      by_cases h0 : 0 < len0
      · simp only [if_true] at hz
        obtain ⟨b, o, rfl, hb⟩ := addr_of (hcell 0 (by omega))
        exact ⟨b, o, fun j => ss.getD j ByteArray.empty, fun _ => ⟨rfl, hb⟩, fun j hj => by rw [← add_plain]; exact hcell j (by omega)⟩
      · exact ⟨0, 0, fun _ => ByteArray.empty, fun h => absurd h h0, fun j h => absurd (Nat.lt_of_le_of_lt (Nat.zero_le _) h) h0⟩
  clear hA0 hval0
  have fin : Calls Ybaf.prog 3 #[.slice a0 len0 cap0, .int .u8 kd, .int .u64 at_, .string pr, .int .u16 fa] W fun e w' => e = .returned (.bool true) ∧ Below W.heap.size W w' := by
    by_cases hb : 1024 < len0
    · exact law_big a0 len0 cap0 kd at_ pr fa W hb (by unfold maxLen at hm0; omega)
    · exact law_walk F.told a0 len0 cap0 os0 kd at_ pr fa W hF (by omega) b0 o0 fb.1 fb.2 hnil ha0 hc0
  refine fin.mono fun e W' ⟨he, bel⟩ => ?_
  subst he
  exact ⟨_, rfl, _, _, _, [], _, [], hW', trodAll_mk1 (shut_bool Ybaf.underlying4 _), (trodAll_cons_mk (Below.trod laidOut' (by kernel_rfl) (of_decide_eq_true (by kernel_rfl)) k0 bel lt0) (trodAll_cons_mk (shut_int Ybaf.underlying5 w1) (trodAll_cons_mk (shut_int Ybaf.underlying23 w2) (trodAll_cons_mk (Below.trod laidOut' (by kernel_rfl) (of_decide_eq_true (by kernel_rfl)) k3 bel (fun x hx => by cases hx)) (trodAll_cons_mk (shut_int Ybaf.underlying24 w4) trodAll_mk0))))), rfl, bel.frame _, fun h => by cases h⟩

theorem sends_proved : Rows.LawS0243BSendsToldSaid :=
  Claim7.holds_of_told_any 3 Ybaf.f3 "fmt.errorf" [] [] _ _ _ (by kernel_rfl) rfl rfl rfl laidOut (by kernel_rfl) rfl ⟨rfl, rfl, rfl, rfl, rfl, rfl, rfl⟩ rfl rfl (by kernel_rfl) (by kernel_rfl) Ybaf.func3 (by kernel_rfl)
    (of_decide_eq_true (by kernel_rfl)) (of_decide_eq_true (by kernel_rfl)) stops.symm rfl stopKnobs.symm (by kernel_rfl)
    (by kernel_rfl) (by kernel_rfl) (by kernel_rfl) (by kernel_rfl) (by kernel_rfl) (by kernel_rfl) (by kernel_rfl) (by kernel_rfl) (by kernel_rfl) rfl (by kernel_rfl) rfl rfl
    rfl rfl
    rfl (by kernel_rfl) (by kernel_rfl) (by kernel_rfl) (by decide) (by kernel_rfl)
    (OpenClaim.moreEntering_of (by kernel_rfl) (by kernel_rfl) (by kernel_rfl) (by kernel_rfl) (by kernel_rfl) (by kernel_rfl) (by kernel_rfl) (by kernel_rfl) (by kernel_rfl) (by kernel_rfl))
    ⟨_, WideRow.started_initial, quiet _⟩
    (fun os started _ H enc _ => sends_lifted os started H enc)
#print axioms sends_proved
end Go.Proofs.YbulkdzwFmt
