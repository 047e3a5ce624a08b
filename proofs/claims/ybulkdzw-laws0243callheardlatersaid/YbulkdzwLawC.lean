import Derived.Test.YbulkdzwInv
import Derived.Deep.DeepCutAuto
namespace Go.Proofs.Ybulkdzw
open Go.RowKit Go.MapKept

theorem Yba.info9 : (Yba.prog.info? 9).map (fun i => (i.zero, i.size, i.bytes)) = some (some (.string { data := #[] }), 1, 16) := by kernel_rfl

/-- What was heard of the j-th other process: 0 where it is passed over. -/
def hvof (m : Nat) (sk : Nat → Bool) (hs : Nat → Int) (j : Nat) : Int := if j < m ∧ sk j = true then 0 else hs j
def hvo (m : Nat) (sk : Nat → Bool) (hs : Nat → Int) (j : Nat) : Option Value := if j < m ∧ sk j = true then none else some (.int .u64 (hs j))

theorem hv_step {m : Nat} {sk : Nat → Bool} {hs : Nat → Int} {ov x : Int} {k : Nat} (h : hvof m sk hs k = x) :
    (ov < x → decide (∀ j, j < k → ov < hvof m sk hs j) = decide (∀ j, j < k + 1 → ov < hvof m sk hs j)) ∧ (x ≤ ov → false = decide (∀ j, j < k + 1 → ov < hvof m sk hs j)) := by
  subst h
  constructor
  · intro h
    rw [decide_eq_decide]
    exact ⟨fun H j hj => if e : j = k then by rw [e]; exact h else H j (by omega), fun H j hj => H j (by omega)⟩
  · intro h
    exact (decide_eq_false (fun H => by have := H k (by omega); omega)).symm

set_option maxRecDepth 100000 in
set_option maxHeartbeats 1000000 in
theorem law_walk (t : Int) (b : Bool) (a2 : Option Addr) (n cap2 : Nat) (a3 : Option Addr) (m cap3 : Nat) (w : World) (b2 o2 b3 o3 : Nat) (hs : Nat → Int) (sk : Nat → Bool) (hn : n ≤ 1024) (hm : m ≤ 9223372036854775807)
    (ha2 : 0 < n → a2 = some ⟨b2, o2, none⟩ ∧ b2 < w.heap.size) (hc2 : ∀ j, j < n → w.cell? ⟨b2, o2 + j, none⟩ = some (.int .u64 (hs j)))
    (ha3 : 0 < m → a3 = some ⟨b3, o3, none⟩ ∧ b3 < w.heap.size) (hc3 : ∀ j, j < m → w.cell? ⟨b3, o3 + j, none⟩ = some (.bool (sk j))) :
    Calls Yba.prog 4 #[.int .u64 t, .bool b, .slice a2 n cap2, .slice a3 m cap3] w fun e w' => e = .returned (.bool true) ∧ Below w.heap.size w w' := by
  have hmm := @run_makeMap Yba.prog
  have hI0 := inv_start w (hvo m sk hs)
  obtain ⟨w0, qes, qc, hput, hlk, hI⟩ := inv_self hI0 (.agg #[.int .u64 t, .string { data := #[115, 101, 108, 102] }])
  obtain ⟨i0, hi, hz0, hz1, hz2⟩ := info_parts Yba.info9
  have HI : Hid (Inv _ _ _ _ _ _ _ _) := hI
  have HI0 : Hid (Inv _ _ _ _ _ _ _ _) := hI0
  clear hI hI0
  unfold procCells at hput
  go_enter Yba.func4, Yba.ntmps4
  go_upto_if 22 with fail
  go_cut [10] (fun o wc => ∃ ov qes qc x, o = .int .u64 ov ∧ look qes self = some x ∧ x.getD (.agg #[.int .u64 0, .string { data := #[] }]) = .agg #[.int .u64 ov, .string (if b then self else { data := #[] })] ∧ Inv w wc 0 0 (.slice none 0 0) qes qc (hvo m sk hs))
  case first =>
    cases b
    · go_wp2
      go_meet
      case rel => exact ⟨0, #[], 0, none, rfl, rfl, rfl, HI0.out⟩
    · go_wp2
      go_meet
      case rel => exact ⟨t, qes, qc, _, rfl, hlk, rfl, HI.out⟩
  case rest =>
    clear hlk hput HI HI0 hmm
    obtain ⟨ov, qes, qc, x, rfl, hx, hxd, hI⟩ := hcut
    have HX : Hid _ := hx
    have HXD : Hid _ := hxd
    have HI : Hid _ := hI
    clear hx hxd hI
    go_wp2
    go_loopw [11, 12] (fun wt i wr => ∃ k : Nat, ∃ v : Value, k ≤ n ∧ i = .int .i64 k ∧ wt = .bool (decide (∀ j, j < k → ov < hvof m sk hs j)) ∧ Inv w wr k k v qes qc (hvo m sk hs)) (fun _ i _ => n - (intOf i).toNat)
    case atStart => exact ⟨0, _, Nat.zero_le _, rfl, ret_b (decide_eq_true (fun j hj => absurd hj (Nat.not_lt_zero _))).symm, HI.out⟩
    case round =>
      obtain ⟨k, v, hk, rfl, rfl, hI⟩ := hrel
      by_cases hlt : k < n
      · obtain ⟨rfl, hb2⟩ := ha2 (by omega)
        have bel := hI.bel
        have hsz := hI.sz
        have c3 : wr.cell? ⟨w.heap.size + 1 + 1, 3, none⟩ = some v := by simp [World.cell?, hI.ph, procCells]
        have HH : Hid _ := hI
        clear hI ha2
        go_upto_region 14 with (first
          | (go_at_call 7; refine (name_any k _ (by omega)).mono ?_; rintro e w' ⟨rfl, rfl⟩)
          | (at_builtin; refine wpList_append_one _ rfl _ _ 55 rfl (w.heap.size + 3) 9 i0 (.string { data := #[] }) 1 16 Yba.underlying55 hi hz0 hz1 hz2 rfl (by decide) v k (names k) rfl (HH.out.own.alloc _) ⟨wr.heap.size, 0, none⟩ 1 [.string (nm k)] rfl rfl (cell_one_new _ _ _) (by simp [Value.oneCell']) (by unfold maxLen; omega) (by omega) (by simp; omega) ?_; intro g cp w1 hown' hgrow; obtain ⟨d3, f3⟩ := HH.out.after hgrow))
        have hP := HH.out.pushed hgrow hown'
        clear d3 f3 hgrow hown' HH c3 bel hsz
        generalize hW2 : w1.setCell ⟨w.heap.size + 1 + 1, 3, none⟩ (Value.slice (some { block := g, off := 0 }) (k + 1) cp) = W2
        have hW3 : w1.setCell ⟨w.heap.size + 2, 3, none⟩ (Value.slice (some { block := g, off := 0 }) (k + 1) cp) = W2 := hW2
        rw [hW3] at hP
        clear hW2 hW3
        have d2 : W2.cell? ⟨b2, o2 + k, none⟩ = some (.int .u64 (hs k)) := (hP.bel.cell hb2).trans (hc2 k hlt)
        have d7 := hP.heardCell
        by_cases hkm : k < m
        · obtain ⟨rfl, hb3⟩ := ha3 (by omega)
          have e2 : W2.cell? ⟨b3, o3 + k, none⟩ = some (.bool (sk k)) := (hP.bel.cell hb3).trans (hc3 k hkm)
          cases hsk : sk k
          · rw [hsk] at e2
            obtain ⟨W3, hput, hI⟩ := hP.drew.put (x := .int .u64 (hs k)) (by omega) (by simp [hvo, hsk])
            have e3 : W3.cell? ⟨b2, o2 + k, none⟩ = some (.int .u64 (hs k)) := (hI.bel.cell hb2).trans (hc2 k hlt)
            have hh : hvof m sk hs k = hs k := by simp [hvof, hsk]
            have HR : Hid _ := hv_step (ov := ov) hh
            have HI1 : Hid _ := hI
            clear hh hI hsk ha3 hc2 hc3 hP HI HX HXD
            go_wp2
            go_region
            all_goals go_wp2
            all_goals
              go_roundw
              case rel => exact ⟨k + 1, _, by omega, by go_num, by first | exact ret_b (HR.out.1 (by omega)) | exact ret_b (HR.out.2 (by omega)), HI1.out⟩
              case measure => simp [intOf]; omega
          · rw [hsk] at e2
            have hI := hP.skip (by simp [hvo, hsk, hkm])
            have hh : hvof m sk hs k = 0 := by simp [hvof, hsk, hkm]
            have HR : Hid _ := hv_step (ov := ov) hh
            have HI1 : Hid _ := hI
            clear hh hI hsk ha3 hc2 hc3 hP HI HX HXD
            go_wp2
            all_goals
              go_roundw
              case rel => exact ⟨k + 1, _, by omega, by go_num, by first | exact ret_b (HR.out.1 (by omega)) | exact ret_b (HR.out.2 (by omega)), HI1.out⟩
              case measure => simp [intOf]; omega
        · obtain ⟨W3, hput, hI⟩ := hP.drew.put (x := .int .u64 (hs k)) (by omega) (by simp [hvo, hkm])
          have e3 : W3.cell? ⟨b2, o2 + k, none⟩ = some (.int .u64 (hs k)) := (hI.bel.cell hb2).trans (hc2 k hlt)
          have hh : hvof m sk hs k = hs k := by simp [hvof, hkm]
          have HR : Hid _ := hv_step (ov := ov) hh
          have HI1 : Hid _ := hI
          clear hh hI ha3 hc2 hc3 hP HI HX HXD
          go_wp2
          go_region
          all_goals go_wp2
          all_goals
            go_roundw
            case rel => exact ⟨k + 1, _, by omega, by go_num, by first | exact ret_b (HR.out.1 (by omega)) | exact ret_b (HR.out.2 (by omega)), HI1.out⟩
            case measure => simp [intOf]; omega
      · obtain rfl : k = n := by omega
        have hx := HX.out
        have hxd := HXD.out
        have HB : Hid _ := hI.bel
        obtain ⟨hes, hcl, hhb, hhl⟩ := hI.hh
        rcases hI.own.2 with ⟨rfl, rfl⟩ | ⟨g, cap, cur, rfl, hg, hgb, hcap, hcm, hcs, htk⟩
        · have H := heard_none none 0 (w.heap.size + 1 + 1) w.heap.size (w.heap.size + 1) wr ov _ qes qc x hI.ph hI.qh hx hxd
          have HC : Hid _ := H
          clear H hx hxd hI hhl hhb HX HXD HI
          go_wp2_with (go_at_call 8; refine Calls.mono HC.out ?_; rintro e w' ⟨rfl, hb⟩)
          go_ret
          exact ⟨rfl, HB.out.trans (hb.mono HB.out.size)⟩
        · have hcells : ∀ j, j < k → wr.cell? ⟨g, j, none⟩ = some (.string (nm j)) := by
            intro j hj
            have e : (cur.toList.take (k * 1))[j]? = (names k)[j]? := by rw [htk]
            rw [List.getElem?_take, if_pos (by omega)] at e
            simp only [World.cell?, hgb]
            simpa [names, hj] using e
          have H := heard_some g k cap (w.heap.size + 1 + 1) w.heap.size (w.heap.size + 1) wr ov _ qes hes qc hcl x (hvof m sk hs) hn hI.ph hI.qh hx hxd hhb (fun j hj => ⟨_, hhl j (by omega), by rw [if_pos hj]; unfold hvo hvof; split <;> rfl⟩) hcells (Array.getElem?_eq_some_iff.1 hgb).1
          have HC : Hid _ := H
          clear H hx hxd hI hhl hhb HX HXD HI hcells htk hgb hc2 hc3 ha2 ha3
          generalize hD : decide (∀ j, j < k → ov < hvof m sk hs j) = D
          rw [hD] at HC
          clear hD
          go_wp2_with (go_at_call 8; refine Calls.mono HC.out ?_; rintro e w' ⟨rfl, hb⟩)
          go_ret
          exact ⟨ret_bool (by simp), HB.out.trans (hb.mono HB.out.size)⟩
end Go.Proofs.Ybulkdzw
