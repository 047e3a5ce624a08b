import Derived.Test.YbulkehyCheck
import Derived.ProofKit
import Derived.OpenShut
import Derived.ShutString
import Derived.ChangeOld
import Derived.Below
set_option linter.unusedVariables false
namespace Go.Proofs.Ybulkehy
open Go.ChangeShapes Go.WideShapes Go.ChangeAt Go.RowKit

theorem own : ownKnob Yba.prog.godebug = none := by kernel_rfl
theorem laidOut : laidOutB Yba.prog = true := by kernel_rfl
theorem cells22 : Yba.prog.cellsOf 22 = 1 := by kernel_rfl
theorem cells2 : Yba.prog.cellsOf 2 = 1 := by kernel_rfl
theorem cells3 : Yba.prog.cellsOf 3 = 1 := by kernel_rfl
theorem cells9 : Yba.prog.cellsOf 9 = 1 := by kernel_rfl
theorem cells23 : Yba.prog.cellsOf 23 = 1 := by kernel_rfl
theorem cells4 : Yba.prog.cellsOf 4 = 1 := by kernel_rfl
theorem cells25 : Yba.prog.cellsOf 25 = 8 := by kernel_rfl
theorem cells5 : Yba.prog.cellsOf 5 = 1 := by kernel_rfl

theorem array8 {α : Type} {cs : Array α} (h : cs.size = 8) : ∃ c0 c1 c2 c3 c4 c5 c6 c7, cs = #[c0, c1, c2, c3, c4, c5, c6, c7] := by
  obtain ⟨l⟩ := cs
  match l, h with
  | [c0, c1, c2, c3, c4, c5, c6, c7], _ => exact ⟨c0, c1, c2, c3, c4, c5, c6, c7, rfl⟩

/-- The law's argument, opened. -/
theorem open_env {H : Type} {enc : TypeId × Value → H} {W : World} {base : Nat} {v : Value} {d : DataW H} {p : List MemPlace} (hv : Value.okWide Yba.prog W .any base 25 v) (h : DataW.Trod enc Yba.prog W 0 (fun _ => true) true 25 v d p) :
    ∃ (id ts fts att : Int) (rs : ByteArray) (due : Int) (a : Option Addr) (n c : Nat) (pn : Bool), v = .agg #[.int .u64 id, .int .i64 ts, .int .i64 fts, .int .i64 att, .string rs, .int .i64 due, .slice a n c, .bool pn] ∧ n ≤ maxLen ∧
      ∃ xs : List Value, xs.length = n ∧ (∀ v ∈ xs, v.oneCell' = true) ∧ (0 < n → ∃ ad, a = some ad ∧ ad.block < W.heap.size ∧ ∀ j v, xs[j]? = some v → W.cell? (ad.add j) = some v) := by
  obtain ⟨cs, rfl, hsz⟩ := okWide_struct Yba.underlying25 hv
  obtain ⟨c0, c1, c2, c3, c4, c5, c6, c7, rfl⟩ := array8 (hsz.trans cells25)
  obtain ⟨fuel, hf⟩ := h
  obtain ⟨ys, m, _, _, _, hyl, hy⟩ := DataW.trod_struct Yba.underlying25 hf
  have hlen : ys.length = 8 := hyl
  have z0 : DataW.trod enc Yba.prog W 0 (fun _ => true) true m 22 (([c0, c1, c2, c3, c4, c5, c6, c7].drop 0).take (Yba.prog.cellsOf 22)) = ys[0]? := hy 0 _ rfl
  rw [cells22] at z0
  have y0 : DataW.trod enc Yba.prog W 0 (fun _ => true) true m 22 [c0] = ys[0]? := z0
  have z1 : DataW.trod enc Yba.prog W 0 (fun _ => true) true m 2 (([c0, c1, c2, c3, c4, c5, c6, c7].drop 1).take (Yba.prog.cellsOf 2)) = ys[1]? := hy 1 _ rfl
  rw [cells2] at z1
  have y1 : DataW.trod enc Yba.prog W 0 (fun _ => true) true m 2 [c1] = ys[1]? := z1
  have z2 : DataW.trod enc Yba.prog W 0 (fun _ => true) true m 2 (([c0, c1, c2, c3, c4, c5, c6, c7].drop 2).take (Yba.prog.cellsOf 2)) = ys[2]? := hy 2 _ rfl
  rw [cells2] at z2
  have y2 : DataW.trod enc Yba.prog W 0 (fun _ => true) true m 2 [c2] = ys[2]? := z2
  have z3 : DataW.trod enc Yba.prog W 0 (fun _ => true) true m 3 (([c0, c1, c2, c3, c4, c5, c6, c7].drop 3).take (Yba.prog.cellsOf 3)) = ys[3]? := hy 3 _ rfl
  rw [cells3] at z3
  have y3 : DataW.trod enc Yba.prog W 0 (fun _ => true) true m 3 [c3] = ys[3]? := z3
  have z4 : DataW.trod enc Yba.prog W 0 (fun _ => true) true m 9 (([c0, c1, c2, c3, c4, c5, c6, c7].drop 4).take (Yba.prog.cellsOf 9)) = ys[4]? := hy 4 _ rfl
  rw [cells9] at z4
  have y4 : DataW.trod enc Yba.prog W 0 (fun _ => true) true m 9 [c4] = ys[4]? := z4
  have z5 : DataW.trod enc Yba.prog W 0 (fun _ => true) true m 2 (([c0, c1, c2, c3, c4, c5, c6, c7].drop 5).take (Yba.prog.cellsOf 2)) = ys[5]? := hy 5 _ rfl
  rw [cells2] at z5
  have y5 : DataW.trod enc Yba.prog W 0 (fun _ => true) true m 2 [c5] = ys[5]? := z5
  have z6 : DataW.trod enc Yba.prog W 0 (fun _ => true) true m 23 (([c0, c1, c2, c3, c4, c5, c6, c7].drop 6).take (Yba.prog.cellsOf 23)) = ys[6]? := hy 6 _ rfl
  rw [cells23] at z6
  have y6 : DataW.trod enc Yba.prog W 0 (fun _ => true) true m 23 [c6] = ys[6]? := z6
  have z7 : DataW.trod enc Yba.prog W 0 (fun _ => true) true m 4 (([c0, c1, c2, c3, c4, c5, c6, c7].drop 7).take (Yba.prog.cellsOf 4)) = ys[7]? := hy 7 _ rfl
  rw [cells4] at z7
  have y7 : DataW.trod enc Yba.prog W 0 (fun _ => true) true m 4 [c7] = ys[7]? := z7
  rw [List.getElem?_eq_getElem (by omega)] at y0 y1 y2 y3 y4 y5 y6 y7
  obtain ⟨n0, e0, _, _⟩ := DataW.trod_int Yba.underlying22 y0
  obtain ⟨n1, e1, _, _⟩ := DataW.trod_int Yba.underlying2 y1
  obtain ⟨n2, e2, _, _⟩ := DataW.trod_int Yba.underlying2 y2
  obtain ⟨n3, e3, _, _⟩ := DataW.trod_int Yba.underlying3 y3
  obtain ⟨s4, e4, _, _⟩ := DataW.trod_string Yba.underlying9 y4
  obtain ⟨n5, e5, _, _⟩ := DataW.trod_int Yba.underlying2 y5
  obtain ⟨b7, e7, _⟩ := DataW.trod_bool Yba.underlying4 y7
  simp only [List.cons.injEq, and_true] at e0 e1 e2 e3 e4 e5 e7
  subst e0 e1 e2 e3 e4 e5 e7
  rcases open_ints Yba.underlying23 Yba.underlying5 cells5 y6 with ⟨hcs, _⟩ | ⟨x, l, c, zs, hcs, _, hl, hm, hz, _, hcell, hwz⟩
  · simp only [List.cons.injEq, and_true] at hcs
    subst hcs
    exact ⟨n0, n1, n2, n3, s4, n5, none, 0, 0, b7, rfl, Nat.zero_le _, [], rfl, by simp, fun h => absurd h (Nat.lt_irrefl _)⟩
  · simp only [List.cons.injEq, and_true] at hcs
    subst hcs
    simp only [if_true] at hz
    refine ⟨n0, n1, n2, n3, s4, n5, some x, l, c, b7, rfl, Nat.le_trans hl hm, (List.range l).map (fun j => .int .u8 (zs.getD j 0)), by simp, ?_, fun h0 => ⟨x, rfl, ?_, ?_⟩⟩
    · intro v hv
      simp only [List.mem_map] at hv
      obtain ⟨j, _, rfl⟩ := hv
      rfl
    · have h := hcell 0 (by omega)
      by_cases hb : x.block < W.heap.size
      · exact hb
      · have : (x.add 0).block = x.block := by cases x; simp [Addr.add]
        simp [World.cell?, this, Array.getElem?_eq_none (Nat.le_of_not_lt hb)] at h
    · intro j v hj
      have hjl : j < l := by have := (List.getElem?_eq_some_iff.1 hj).1; simpa using this
      rw [hcell j (by omega)]
      simp [hjl] at hj
      rw [← hj]
      simp

set_option maxRecDepth 100000 in
theorem lifted (os : Os) (started : os.Started) (H : Type) (enc : TypeId × Value → H) :
    ReturnsInHanded {} Yba.checked os 3 .any (Rows.lawS0258AAcceptsSpec.pre6 enc Yba.prog Yba.f3 Rows.lawS0258AAcceptsRow.domain false) (Rows.lawS0258AAcceptsSpec.post enc Yba.prog Yba.f3 false true false false) := by
  refine returnsInHanded_of_change (C := Yba.checked) own started (by kernel_rfl) Yba.func3
    (ChangeSpec.witness6 (enc := enc) (C := Yba.checked) false ⟨#[], #[.agg #[.int .u64 0, .int .i64 0, .int .i64 0, .int .i64 0, .string ByteArray.empty, .int .i64 0, .slice none 0 0, .bool false]], []⟩ 8 (by kernel_rfl) (by kernel_rfl) (by kernel_rfl) (by kernel_rfl)) ?_
  intro W base args ds gs before hval0 hW hcnd _
  have hval : ∀ (j : Nat) t v, Yba.f3.params[j]? = some t → args[j]? = some v → Value.okWide Yba.prog W .any base t v := hval0
  have hW' := hW
  obtain ⟨p, q, hA0, hV, rfl, hfz, hnd⟩ := hW
  have hA : DataW.TrodAll enc Yba.prog W 0 (fun _ => true) true Yba.f3.params.toList args.toList ds p := hA0
  rw [Yba.params3] at hA hval
  obtain ⟨v0, vs0, d0, ds0, p0, q0, hargs, rfl, rfl, h0, r0⟩ := trodAll_cons hA
  obtain ⟨rfl, rfl, rfl⟩ := trodAll_nil r0
  obtain rfl : args = #[v0] := by cases args; simp_all
  obtain ⟨rfl, rfl⟩ := trodVars_none hV
  have k0 := h0
  have lt0 : ∀ x ∈ p0, x.block < W.heap.size := by obtain ⟨m, hm⟩ := k0; exact DataW.trod_lt m _ _ _ hm
  obtain ⟨id, ts, fts, att, rs, due, a, n, c, pn, rfl, hm, xs, hx, h1, hc⟩ := open_env (hval 0 25 v0 rfl rfl) h0
  clear hA0 hval0
  have fin : Calls Yba.prog 3 #[.agg #[.int .u64 id, .int .i64 ts, .int .i64 fts, .int .i64 att, .string rs, .int .i64 due, .slice a n c, .bool pn]] W fun e w' => e = .returned (.bool true) ∧ Below W.heap.size W w' := by
    by_cases hb : 4096 < n
    · exact law_big id ts fts att rs due a n c pn W hb hm
    · refine law_of id ts fts att rs due a n c pn W (by omega) (fun w1 bel => ?_)
      cases pn with
      | true => exact (build_nil id ts fts att rs due a n c w1).mono fun e w' h => ⟨⟨_, _, _, h.1, rfl⟩, h.2⟩
      | false =>
        refine (build_some id ts fts att rs due a n c w1 (by omega) xs hx h1 (fun h0 => ?_)).mono fun e w' h => ?_
        · obtain ⟨ad, ha, hlt, hcc⟩ := hc h0
          refine ⟨ad, ha, by have := bel.size; omega, fun j v hj => ?_⟩
          have hbk : (ad.add j).block = ad.block := by cases ad; simp [Addr.add]; split <;> rfl
          exact (bel.cell (p := ad.add j) (by omega)).trans (hcc j v hj)
        · obtain ⟨⟨g, he⟩, hb2⟩ := h
          exact ⟨⟨_, _, _, he, rfl⟩, hb2⟩
  refine fin.mono fun e W' ⟨he, bel⟩ => ?_
  subst he
  exact ⟨_, rfl, _, _, _, [], _, [], hW', trodAll_mk1 (shut_bool Yba.underlying4 _), (trodAll_cons_mk (Below.trod laidOut (by kernel_rfl) (of_decide_eq_true (by kernel_rfl)) k0 bel lt0) trodAll_mk0), rfl, bel.frame _, fun h => by cases h⟩

theorem over : Rows.lawS0258AAcceptsRow.holds Yba.pinned (OpenSpec.ofChange Rows.lawS0258AAcceptsSpec) :=
  OpenClaim.holds_of_wide 3 Yba.f3 rfl rfl rfl rfl rfl rfl rfl ⟨rfl, rfl, rfl, rfl, rfl⟩ rfl rfl rfl rfl rfl (by kernel_rfl) Yba.func3 (by kernel_rfl)
    (of_decide_eq_true (by kernel_rfl)) (by unfold Func.isWrapper; first | (rw [if_pos (by decide +kernel)]; kernel_rfl) | (rw [if_neg (by decide +kernel)]; exact ⟨rfl, rfl⟩))
    (fun os started H enc _ => lifted os started H enc)

theorem accepts_proved : Rows.LawS0258AAcceptsSaid := over
#print axioms accepts_proved
end Go.Proofs.Ybulkehy
