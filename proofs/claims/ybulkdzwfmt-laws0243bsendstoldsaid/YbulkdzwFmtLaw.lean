import Derived.Test.YbulkdzwFmtFin
import Derived.Deep.QuietTactic
import Derived.BigQuiet
set_option linter.unusedVariables false
namespace Go.Proofs.YbulkdzwFmt
open Go.RowKit Go.Extern.Stop Go.Stop Go.Extern

/-- A frame that agrees but at the literal's slots, written out. -/
theorem Ag.eq {a0 a : Act} (h : Ag D9 a0 a) (hs : a0.tmps.size = 148) :
    a = ((((((((((a0.put (some 39) (sl a 39)).put (some 40) (sl a 40)).put (some 41) (sl a 41)).put (some 42) (sl a 42)).put (some 43) (sl a 43)).put (some 44) (sl a 44)).put (some 45) (sl a 45)).put (some 46) (sl a 46)).put (some 47) (sl a 47)).put (some 48) (sl a 48)).put (some 15) (sl a 15) := by
  obtain ⟨t, df⟩ := a
  obtain ⟨t0, df0⟩ := a0
  obtain ⟨h1, h2, h3⟩ := h
  simp only at h1 h2 h3 hs
  subst h1
  simp only [Act.put, sl, Act.mk.injEq, and_true]
  have hat : ∀ s, s < 148 → t[s]? = some (t.getD s undef) := by
    intro s hl
    have : s < t.size := by omega
    simp [Array.getD, this]
  refine Array.ext_getElem? fun s => ?_
  simp only [Array.getElem?_setIfInBounds, Array.size_setIfInBounds, hs]
  by_cases e15 : s = 15
  · subst e15; simpa using hat 15 (by omega)
  by_cases e48 : s = 48
  · subst e48; simpa using hat 48 (by omega)
  by_cases e47 : s = 47
  · subst e47; simpa using hat 47 (by omega)
  by_cases e46 : s = 46
  · subst e46; simpa using hat 46 (by omega)
  by_cases e45 : s = 45
  · subst e45; simpa using hat 45 (by omega)
  by_cases e44 : s = 44
  · subst e44; simpa using hat 44 (by omega)
  by_cases e43 : s = 43
  · subst e43; simpa using hat 43 (by omega)
  by_cases e42 : s = 42
  · subst e42; simpa using hat 42 (by omega)
  by_cases e41 : s = 41
  · subst e41; simpa using hat 41 (by omega)
  by_cases e40 : s = 40
  · subst e40; simpa using hat 40 (by omega)
  by_cases e39 : s = 39
  · subst e39; simpa using hat 39 (by omega)
  rw [if_neg (Ne.symm e15), if_neg (Ne.symm e48), if_neg (Ne.symm e47), if_neg (Ne.symm e46), if_neg (Ne.symm e45), if_neg (Ne.symm e44), if_neg (Ne.symm e43), if_neg (Ne.symm e42), if_neg (Ne.symm e41), if_neg (Ne.symm e40), if_neg (Ne.symm e39)]
  exact h3 s (by simp [D9]; omega)

theorem listed_of {ops : Array Oper} {l : Array Bool} {i : Nat} (hr : Region.ready .any ops l = []) (hi : i < ops.size) (hl : l.size = ops.size) (hd : ((ops[i]?).map (·.after.all fun e => !Region.binds .any e || l.getD e.on false)).getD false = true) : l.getD i false = true := by
  have hil : i < l.size := by omega
  by_cases h : l[i] = true
  · simp [Array.getD, hil, h]
  · exfalso
    have hm : i ∈ Region.ready .any ops l := by
      simp only [Region.ready, List.mem_filter, List.mem_range, Bool.and_eq_true, Bool.not_eq_true']
      exact ⟨hi, by simp [Array.getD, hil]; simpa using h, hd⟩
    rw [hr] at hm
    cases hm

theorem clone_at {n c0 : Nat} {os : Nat → ByteArray} {a0 : Option Addr} {w1 : World} (hnil : a0 = none → n = 0 ∧ c0 = 0) (hn : n ≤ 1024) (hc : 0 < n → ∃ b0 o0, a0 = some ⟨b0, o0, none⟩ ∧ b0 < w1.heap.size ∧ ∀ j, j < n → w1.cell? ⟨b0, o0 + j, none⟩ = some (.string (os j))) :
    Calls Ybaf.prog 5 #[.slice a0 n c0] w1 fun e w' => ∃ v, e = .returned v ∧ Cl n os w' v ∧ Below w1.heap.size w1 w' := by
  cases a0 with
  | none =>
    obtain ⟨rfl, rfl⟩ := hnil rfl
    refine (clone_nil w1).mono fun e w' ⟨he, hw⟩ => ?_
    subst hw
    exact ⟨_, he, ⟨_, _, 0, rfl, fun h => absurd h (Nat.lt_irrefl _), fun j h => absurd h (Nat.not_lt_zero _)⟩, Below.refl _ _⟩
  | some a =>
    refine (clone_some a n c0 os w1 hn (fun j hj => ?_)).mono fun e w' ⟨v, he, ho, hb⟩ => ⟨v, he, ?_, hb⟩
    · obtain ⟨b0, o0, ha, hlt, hcc⟩ := hc (by omega)
      simp only [Option.some.injEq] at ha
      subst ha
      rw [show (⟨b0, o0, none⟩ : Addr).add j = ⟨b0, o0 + j, none⟩ by simp [Addr.add]]
      exact ⟨hcc j hj, hlt⟩
    · rcases ho.2 with ⟨rfl, rfl⟩ | ⟨g, cap, cur, rfl, hg, hh, _, _, _, htk⟩
      · exact ⟨_, _, 0, rfl, fun h => absurd h (Nat.lt_irrefl _), fun j h => absurd h (Nat.not_lt_zero _)⟩
      · refine ⟨_, _, g, rfl, fun _ => (Array.getElem?_eq_some_iff.1 hh).1, fun j hj => ⟨rfl, ?_⟩⟩
        have e : (cur.toList.take (n * 1))[j]? = (toL os n)[j]? := by rw [htk]
        rw [List.getElem?_take, if_pos (by omega)] at e
        simp only [World.cell?, hh]
        simpa [toL, hj] using e

set_option maxRecDepth 100000 in
set_option maxHeartbeats 1000000 in
theorem law_walk (F : Interp) (a0 : Option Addr) (n c0 : Nat) (os : Nat → ByteArray) (kd at_ : Int) (pr : ByteArray) (fa : Int) (w : World) (hF : F.answers w.tape) (hn : n ≤ 1024) (b0 o0 : Nat) (hfa0 : 0 ≤ fa) (hfa1 : fa ≤ 65535)
    (hnil : a0 = none → n = 0 ∧ c0 = 0) (ha : 0 < n → a0 = some ⟨b0, o0, none⟩ ∧ b0 < w.heap.size) (hc : ∀ j, j < n → w.cell? ⟨b0, o0 + j, none⟩ = some (.string (os j))) :
    Calls Ybaf.prog 3 #[.slice a0 n c0, .int .u8 kd, .int .u64 at_, .string pr, .int .u16 fa] w fun e w' => e = .returned (.bool true) ∧ Below w.heap.size w w' := by
  go_enter Ybaf.func3, Ybaf.ntmps3
  go_upto_if 33 with fail
  go_cut [12] (fun v wc => ∃ f : Int, v = .int .i64 f ∧ (f = -1 ∨ (0 ≤ f ∧ f < n)) ∧ w = wc)
  case first =>
    have h0 : 0 ≤ fa % ((n : Int) + 1) := Int.emod_nonneg _ (by omega)
    have h1 : fa % ((n : Int) + 1) < (n : Int) + 1 := Int.emod_lt_of_pos _ (by omega)
    by_cases hb : fa % ((n : Int) + 1) = n
    · have hb' : (fa % ((n : Int) + 1) == (n : Int)) = true := by simp [hb]
      clear hb h0 h1
      go_wp2
      go_meet
      case rel => exact ⟨-1, rfl, .inl rfl, rfl⟩
    · have hb' : (fa % ((n : Int) + 1) == (n : Int)) = false := by simp [hb]
      have HB := hide (show fa % ((n : Int) + 1) = -1 ∨ (0 ≤ fa % ((n : Int) + 1) ∧ fa % ((n : Int) + 1) < n) from .inr ⟨h0, by omega⟩)
      clear hb h0 h1
      go_wp2
      go_meet
      case rel => exact ⟨_, rfl, HB.out, rfl⟩
  case rest =>
    obtain ⟨f, rfl, hf, rfl⟩ := hcut
    have HFF := hide hF
    have HA := hide ha
    have HCC := hide hc
    have HN := hide hnil
    have HFR := hide hf
    clear hF ha hc hnil hf
    go_upto_region 9 with (go_at_call 4; refine (new_any _ _).mono ?_; rintro e w' ⟨rfl, rfl⟩)
    obtain ⟨W1, hW1⟩ : ∃ W1, W1 = (w.alloc (.cells #[.string { data := #[114, 101, 102, 117, 115, 101, 100] }] 64)).alloc (.cells #[.int .i64 f, .iface 62 (.pointer (some ⟨w.heap.size, 0, none⟩)), .int .i64 0, .slice none 0 0, .slice none 0 0] 31) := ⟨_, rfl⟩
    have hsz1 : W1.heap.size = w.heap.size + 2 := by rw [hW1]; simp
    have bel1 : Below w.heap.size w W1 := by rw [hW1]; exact ((Below.refl _ _).alloc (Nat.le_refl _) _).alloc (by simp) _
    have hR : W1.cell? ⟨w.heap.size, 0, none⟩ = some (.string { data := #[114, 101, 102, 117, 115, 101, 100] }) := by rw [hW1]; simp
    have hT : W1.heap[w.heap.size + 1]? = some (.cells #[.int .i64 f, .iface 62 (.pointer (some ⟨w.heap.size, 0, none⟩)), .int .i64 0, .slice none 0 0, .slice none 0 0] 31) := by
      rw [hW1]
      have := (MapKept.heap_alloc (w.alloc (.cells #[.string { data := #[114, 101, 102, 117, 115, 101, 100] }] 64)) (.cells #[.int .i64 f, .iface 62 (.pointer (some ⟨w.heap.size, 0, none⟩)), .int .i64 0, .slice none 0 0, .slice none 0 0] 31)).1
      simpa using this
    rw [← hW1]
    have HB1 := hide bel1
    have HR1 := hide hR
    have HT1 := hide hT
    clear hW1 hR hT bel1
    go_cut [15] (fun pv wc => Below W1.heap.size W1 wc ∧ Pr n os (.pointer (some ⟨w.heap.size + 1, 0, none⟩)) W1.heap.size wc pv)
    case first =>
      refine nine ⟨⟨_, _, _, rfl⟩, ⟨_, _, _, rfl⟩, ⟨_, _, _, rfl⟩, ⟨_, _, _, rfl⟩, ⟨_, _, _, rfl⟩, ⟨_, _, _, rfl⟩, ⟨_, _, _, rfl⟩, ⟨_, _, _, rfl⟩, ⟨_, _, _, rfl⟩, ⟨_, _, _, rfl⟩, ⟨_, _, _, rfl⟩, rfl, ?_, ?_, ?_, ?_, ?_, ?_⟩ _ _ n os (.slice a0 n c0) (.pointer (some ⟨w.heap.size + 1, 0, none⟩)) rfl rfl rfl ?_ ?_
      · intro l hi; have := (ready_spec hi).2.2; simpa [Region.binds] using this
      · intro l hi; have := (ready_spec hi).2.2; simpa [Region.binds] using this
      · intro l hi; have := (ready_spec hi).2.2; simpa [Region.binds] using this
      · intro l hi; have := (ready_spec hi).2.2; simpa [Region.binds] using this
      · intro l hi; have := (ready_spec hi).2.2; simp [Region.binds] at this; simp [this]
      · intro l hl hr
        have h0 := listed_of hr (i := 0) (by decide) hl (by simp)
        have h1 := listed_of hr (i := 1) (by decide) hl (by simp [Region.binds] at h0 ⊢; simp [h0])
        have h2 := listed_of hr (i := 2) (by decide) hl (by simp)
        have h3 := listed_of hr (i := 3) (by decide) hl (by simp [Region.binds] at h2 ⊢; simp [h2])
        have h4 := listed_of hr (i := 4) (by decide) hl (by simp)
        have h5 := listed_of hr (i := 5) (by decide) hl (by simp)
        have h6 := listed_of hr (i := 6) (by decide) hl (by simp)
        have h7 := listed_of hr (i := 7) (by decide) hl (by simp)
        have h8 := listed_of hr (i := 8) (by decide) hl (by simp [Region.binds] at h1 h3 h4 h5 h6 h7 ⊢; simp [h1, h3, h4, h5, h6, h7])
        have h9 := listed_of hr (i := 9) (by decide) hl (by simp [Region.binds] at h8 ⊢; simp [h8])
        exact listed_of hr (i := 10) (by decide) hl (by simp [Region.binds] at h0 h1 h2 h3 h4 h5 h6 h7 h8 h9 ⊢; simp [h0, h1, h2, h3, h4, h5, h6, h7, h8, h9])
      · intro w1 hb
        exact clone_at (fun h => HN.out h) hn (fun h0 => by
          obtain ⟨h1, h2⟩ := HA.out h0
          refine ⟨b0, o0, h1, by have := HB1.out.size; have := hb.size; omega, fun j hj => ?_⟩
          rw [hb.cell (p := ⟨b0, o0 + j, none⟩) (by simp only; omega), HB1.out.cell h2]
          exact HCC.out j hj)
      · intro a w' hag hbel hpr
        rw [hag.eq rfl]
        simp only [Act.put, List.setIfInBounds_toArray, List.set_cons_succ, List.set_cons_zero]
        go_wp2
        go_meet
        case rel => exact ⟨hbel, hpr⟩
    case rest =>
      obtain ⟨hbw, p, v1, q, h, g, sc, rfl, hBp, hp, hcl, hBs, hsc⟩ := hcut
      obtain ⟨oa, cap, ob, rfl, hobl, hos⟩ := hcl
      go_upto_region 11 with fail
      have hplt : p < wc.heap.size := (Array.getElem?_eq_some_iff.1 hp).1
      have hslt : sc < wc.heap.size := (Array.getElem?_eq_some_iff.1 hsc).1
      obtain ⟨W2, hW2⟩ : ∃ W2, W2 = wc.alloc (.cells #[.int .u64 at_, .string pr, .slice none 0 0] 55) := ⟨_, rfl⟩
      have bel2 : Below wc.heap.size wc W2 := by rw [hW2]; exact (Below.refl _ _).alloc (Nat.le_refl _) _
      have d0 : W2.cell? ⟨wc.heap.size, 0, none⟩ = some (.int .u64 at_) := by rw [hW2]; simp
      have d1 : W2.cell? ⟨wc.heap.size, 1, none⟩ = some (.string pr) := by rw [hW2]; simp
      have d2 : W2.cell? ⟨wc.heap.size, 2, none⟩ = some (.slice none 0 0) := by rw [hW2]; simp
      rw [← hW2]
      clear hW2
      have hs1 := hbw.size
      have hs2 := bel2.size
      have belW : Below w.heap.size w W2 := (HB1.out.trans (hbw.mono (by omega))).trans (bel2.mono (by omega))
      have HS := hide (sent F w.heap.size p (w.heap.size + 1) sc q h g oa (if n = 0 then p else ob) n cap os f kd at_ pr { data := #[114, 101, 102, 117, 115, 101, 100] } ⟨w.heap.size, 0, none⟩ w W2 (by rw [belW.tape]; exact HFF.out) hn HFR.out belW.size belW (by omega) (by omega) (by omega)
        ((bel2.block p hplt).trans hp) ((bel2.block _ (by omega)).trans ((hbw.block _ (by omega)).trans HT1.out)) ((bel2.block sc hslt).trans hsc)
        ((bel2.cell (p := ⟨w.heap.size, 0, none⟩) (by simp only; omega)).trans ((hbw.cell (p := ⟨w.heap.size, 0, none⟩) (by simp only; omega)).trans HR1.out)) (by simp only; omega) (by simp only; omega) (by simp only; omega)
        (fun j hj => ⟨by rw [if_neg (by omega)]; exact (hos j hj).1, by rw [if_neg (by omega)]; exact (bel2.cell (p := ⟨ob, j, none⟩) (hobl (by omega))).trans (hos j hj).2⟩)
        (by split; omega; have := hobl (by omega); omega) (by
          by_cases h0 : n = 0
          · rw [if_pos h0]; omega
          · rw [if_neg h0]
            intro e
            have h5 := (hos 0 (by omega)).2
            rw [e] at h5
            rw [World.cell?, (hbw.block _ (by omega)).trans HT1.out] at h5
            simp at h5))
      clear hp hsc hos hobl bel2 hbw HR1 HT1 HB1
      go_cut [17] (fun ev w3 => ∃ K oa1 cap1 g1 oa2 cap2 g2, Went w3 p n f ⟨w.heap.size, 0, none⟩ K ev ∧ Fin w3 (w.heap.size + 1) K os kd at_ pr oa1 cap1 g1 oa2 cap2 g2 ∧ Below w.heap.size w w3)
      case first =>
        go_wp2_with (go_at_call 6; refine Calls.mono HS.out ?_; rintro e w' ⟨ev, rfl, hh⟩)
        go_meet
        case rel => exact hh
      case rest =>
        obtain ⟨K, oa1, cap1, g1, oa2, cap2, g2, hwent, hfin, hbel⟩ := hcut
        have HW := hide hwent
        have HFI := hide hfin
        have HBE := hide hbel
        clear hwent hfin hbel HS HFF HN belW
        go_upto_if 59 with fail
        go_cut [18] (fun v w4 => v = .int .i64 K ∧ wc = w4)
        case first =>
          have hcc : (f = -1 ∧ K = n) ∨ (0 ≤ f ∧ (K : Int) = f + 1) := by
            rcases HW.out with ⟨h1, h2, _⟩ | ⟨h1, h2, _⟩
            · exact .inl ⟨h1, h2⟩
            · exact .inr ⟨h1, h2⟩
          rcases hcc with ⟨h1, h2⟩ | ⟨h1, h2⟩
          · have hb' : decide (0 ≤ f) = false := by simp; omega
            subst h1
            go_wp2
            go_meet
            case rel => exact ⟨by rw [h2], rfl⟩
          · have hb' : decide (0 ≤ f) = true := by simp; omega
            go_wp2
            go_meet
            case rel =>
              refine ⟨?_, rfl⟩
              rw [h2]
              have hle := HW.out.le
              unfold wrap64
              congr 1
              omega
        case rest =>
          obtain ⟨rfl, hw4⟩ := hcut
          have HW4 := hide (hw4 ▸ HW.out)
          have HFI4 := hide (hw4 ▸ HFI.out)
          have HBE4 := hide (hw4 ▸ HBE.out)
          clear HW HFI HBE hw4
          have hK1 : K ≤ n := HW4.out.le
          have t3 := HFI4.out.t3
          have t4 := HFI4.out.t4
          go_upto_region 17 with fail
          go_wp2
          go_loopw [19] (fun i wr => ∃ k : Nat, k ≤ K ∧ i = .int .i64 k ∧ Below wc.heap.size wc wr) (fun i _ => K - (intOf i).toNat)
          case atStart => exact ⟨0, Nat.zero_le _, rfl, Below.refl _ _⟩
          case round =>
            obtain ⟨k, hk, rfl, hbr⟩ := hrel
            have hfr := HFI4.out.later hbr
            have hwr := HW4.out.later hbr
            have t3 := hfr.t3
            have t4 := hfr.t4
            by_cases hlt : k < K
            · obtain ⟨rfl, x0⟩ := hfr.tos k hlt
              obtain ⟨rfl, y0, y1, y2, y3⟩ := hfr.msgs k hlt
              have z0 : wr.cell? ⟨b0, o0 + k, none⟩ = some (.string (os k)) := by
                obtain ⟨h1, h2⟩ := HA.out (by omega)
                have := HBE4.out.size
                rw [hbr.cell (p := ⟨b0, o0 + k, none⟩) (by simp only; omega), HBE4.out.cell h2]
                exact HCC.out k (by omega)
              obtain ⟨rfl, h2⟩ := HA.out (by omega)
              clear hfr hwr
              go_upto_region 20 with fail
              go_region
              go_wp2
              go_roundw
              case rel => exact ⟨k + 1, by omega, by go_num, (hbr.drew).alloc hbr.size _⟩
              case measure => simp [intOf]; omega
            · obtain rfl : k = K := by omega
              have HBR := hide hbr
              clear hbr
              rcases hwr with ⟨h1, h2, h3, h4⟩ | ⟨h1, h2, h3, eb, h4, h5, h6⟩
              · have hb' : decide (f < 0) = true := by simp; omega
                subst h3
                clear h1 h2
                go_wp2
                go_ret
                exact ⟨rfl, HBE4.out.trans (HBR.out.mono HBE4.out.size)⟩
              · have hb' : decide (f < 0) = false := by simp; omega
                subst h4
                have hq := eqlWrap ⟨eb, 0, none⟩ wr
                have hcl := is_wrap_same eb 0 ⟨w.heap.size, 0, none⟩ wr h6
                clear h1 h2
                go_wp2_with (go_at_call 7; refine Calls.mono hcl ?_; rintro e w' ⟨rfl, rfl⟩)
                go_ret
                exact ⟨rfl, HBE4.out.trans (HBR.out.mono HBE4.out.size)⟩

set_option maxRecDepth 100000 in
theorem law_big (a0 : Option Addr) (n c0 : Nat) (kd at_ : Int) (pr : ByteArray) (fa : Int) (w : World) (hn : 1024 < n) (hb : n ≤ 9223372036854775807) :
    Calls Ybaf.prog 3 #[.slice a0 n c0, .int .u8 kd, .int .u64 at_, .string pr, .int .u16 fa] w fun e w' => e = .returned (.bool true) ∧ Below w.heap.size w w' := by
  go_enter Ybaf.func3, Ybaf.ntmps3
  have h1 : (1024 : Int) < n := by omega
  go_wp2
  go_ret
  exact ⟨rfl, Below.refl _ _⟩
end Go.Proofs.YbulkdzwFmt
