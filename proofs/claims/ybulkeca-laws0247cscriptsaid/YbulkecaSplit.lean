import Derived.Test.YbulkecaPushes
import Derived.Orders
import Derived.Deep.QuietTactic
import Derived.BigQuiet
set_option linter.unusedVariables false
namespace Go.Proofs.Ybulkeca

/-! A region that draws its order, whose last two operations come behind all the others in every order, and whose others only read. -/

def leftOf (l : Array Bool) : Nat := (l.toList.filter (fun b => !b)).length

theorem filter_set : ∀ (l : List Bool) (i : Nat), l[i]? = some false → ((l.set i true).filter (fun b => !b)).length + 1 = (l.filter (fun b => !b)).length
  | [], i, h => by simp at h
  | b :: l, 0, h => by simp at h; subst h; simp
  | b :: l, i + 1, h => by
    have := filter_set l i (by simpa using h)
    cases b <;> simp at this ⊢ <;> omega

theorem leftOf_set {l : Array Bool} {i : Nat} (h : l.getD i true = false) : leftOf (l.setIfInBounds i true) + 1 = leftOf l := by
  unfold leftOf
  rw [Array.toList_setIfInBounds]
  refine filter_set l.toList i ?_
  by_cases hi : i < l.size
  · have : l[i] = false := by simpa [Array.getD, hi] using h
    simp [hi, this]
  · simp [Array.getD, hi] at h

theorem ready_iff {md : Region.Mode} {ops : Array Oper} {l : Array Bool} {i : Nat} : i ∈ Region.ready md ops l ↔ i < ops.size ∧ l.getD i true = false ∧ ∃ o, ops[i]? = some o ∧ ∀ e ∈ o.after, Region.binds md e = true → l.getD e.on false = true := by
  simp only [Region.ready, List.mem_filter, List.mem_range, Bool.and_eq_true, Bool.not_eq_true']
  constructor
  · rintro ⟨h1, h2, h3⟩
    refine ⟨h1, h2, ?_⟩
    cases ho : ops[i]? with
    | none => simp [ho] at h3
    | some o =>
      refine ⟨o, rfl, fun e he hb => ?_⟩
      simp only [ho, Option.map_some, Option.getD_some, Array.all_eq_true_iff_forall_mem] at h3
      have := h3 e he
      simpa [hb] using this
  · rintro ⟨h1, h2, o, ho, h3⟩
    refine ⟨h1, h2, ?_⟩
    simp only [ho, Option.map_some, Option.getD_some, Array.all_eq_true_iff_forall_mem]
    intro e he
    cases hb : Region.binds md e with
    | false => simp
    | true => simpa using h3 e he hb

theorem wpAny_inv {P : Program} {ops : Array Oper} {Q : Exit → Act → World → Prop} {md : Region.Mode} (I : Array Bool → Act → World → Prop)
    (hdone : ∀ l a w, I l a w → Region.ready md ops l = [] → Q .normal a w)
    (hstep : ∀ l a w i, I l a w → i ∈ Region.ready md ops l → wpOp P ops Q i (I (l.setIfInBounds i true)) a w) :
    ∀ (fuel : Nat) (l : Array Bool) (a : Act) (w : World), leftOf l ≤ fuel → I l a w → wpAny P md ops Q fuel l a w
  | 0, l, a, w, hf, h => by
    have hr : Region.ready md ops l = [] := by
      cases hr : Region.ready md ops l with
      | nil => rfl
      | cons i r =>
        have := leftOf_set (ready_iff.1 (hr ▸ List.mem_cons_self : i ∈ Region.ready md ops l)).2.1
        omega
    exact ⟨hr, hdone l a w h hr⟩
  | fuel + 1, l, a, w, hf, h => by
    refine ⟨hdone l a w h, fun i hi => ?_⟩
    have := leftOf_set (ready_iff.1 hi).2.1
    exact wpOp_mono (fun a' w' h' => wpAny_inv I hdone hstep fuel _ a' w' (by omega) h') (hstep l a w i h hi)

/-- What is asked of the region's text. -/
structure Chk (l : List Oper) (m : Nat) : Prop where
  len : l.length = m + 2
  low : ∀ j o, j < m → l[j]? = some o → (∀ e ∈ o.after, e.on < j) ∧ ∀ g, o.guard = some g → g.1 < m
  up : ∀ j, j < m → ∃ j' o, j < j' ∧ j' ≤ m ∧ l[j']? = some o ∧ ∃ e ∈ o.after, e.on = j ∧ Region.binds .any e = true
  lowm : ∀ o, l[m]? = some o → ∀ e ∈ o.after, e.on < m
  last : ∀ o, l[m + 1]? = some o → (∀ e ∈ o.after, e.on < m + 1) ∧ ∃ e ∈ o.after, e.on = m ∧ Region.binds .any e = true

def guardLow (g : Option (Nat × Bool)) (m : Nat) : Bool := match g with | none => true | some g => decide (g.1 < m)
def onB (o : Option Oper) (j : Nat) : Bool := match o with | none => false | some o => o.after.any fun e => decide (e.on = j) && Region.binds .any e
def belowB (o : Option Oper) (j : Nat) : Bool := match o with | none => true | some o => o.after.all fun e => decide (e.on < j)
def gB (o : Option Oper) (m : Nat) : Bool := match o with | none => true | some o => guardLow o.guard m
def chkB (l : List Oper) (m : Nat) : Bool :=
  decide (l.length = m + 2) && (List.range m).all (fun j => belowB l[j]? j && gB l[j]? m && (List.range (m + 1)).any fun j' => decide (j < j') && onB l[j']? j) && belowB l[m]? m && belowB l[m + 1]? (m + 1) && onB l[m + 1]? m

theorem onB_spec {o : Option Oper} {j : Nat} (h : onB o j = true) : ∃ x, o = some x ∧ ∃ e ∈ x.after, e.on = j ∧ Region.binds .any e = true := by
  cases o with
  | none => cases h
  | some x =>
    obtain ⟨i, hi, h2⟩ := Array.any_eq_true.1 h
    simp only [Bool.and_eq_true, decide_eq_true_eq] at h2
    exact ⟨x, rfl, x.after[i], Array.getElem_mem hi, h2⟩
theorem belowB_spec {o : Option Oper} {j : Nat} (h : belowB o j = true) : ∀ x, o = some x → ∀ e ∈ x.after, e.on < j := by
  rintro x rfl e he
  simp only [belowB, Array.all_eq_true_iff_forall_mem, decide_eq_true_eq] at h
  exact h e he
theorem gB_spec {o : Option Oper} {m : Nat} (h : gB o m = true) : ∀ x, o = some x → ∀ g, x.guard = some g → g.1 < m := by
  rintro x rfl g hg
  simp only [gB, guardLow, hg, decide_eq_true_eq] at h
  exact h

theorem chk_of {l : List Oper} {m : Nat} (h : chkB l m = true) : Chk l m := by
  simp only [chkB, Bool.and_eq_true, decide_eq_true_eq, List.all_eq_true, List.mem_range, List.any_eq_true] at h
  obtain ⟨⟨⟨⟨h1, h2⟩, h3⟩, h4⟩, h5⟩ := h
  refine ⟨h1, fun j o hj ho => ⟨belowB_spec (h2 j hj).1.1 o ho, gB_spec (h2 j hj).1.2 o ho⟩, fun j hj => ?_, fun o ho => belowB_spec h3 o ho, fun o ho => ⟨belowB_spec h4 o ho, ?_⟩⟩
  · obtain ⟨j', hj', hlt, hon⟩ := (h2 j hj).2
    obtain ⟨x, hx, he⟩ := onB_spec hon
    exact ⟨j', x, hlt, by omega, hx, he⟩
  · obtain ⟨x, hx, he⟩ := onB_spec h5
    rw [hx] at ho
    cases ho
    exact he

section
variable {P : Program} {l : List Oper} {m : Nat} {C : World → Prop} {Q : Exit → Act → World → Prop} {Qa : Act → Prop}

theorem pre_get (j : Nat) (hj : j < m) : (l.take m).toArray[j]? = l.toArray[j]? := by simp [hj]

theorem qOp_pre (hc : Chk l m) {i : Nat} (hi : i < m) {K : Act → Prop} {a : Act} (h : qOp P (l.take m).toArray C i K a) : qOp P l.toArray C i K a := by
  unfold qOp at *
  rw [pre_get i hi] at h
  cases ho : l.toArray[i]? with
  | none => simpa [ho] using h
  | some o =>
    simp only [ho] at h ⊢
    have hg := (hc.low i o hi (by simpa using ho)).2
    have hw : Region.wanted o (yielded (l.take m).toArray a.tmps) = Region.wanted o (yielded l.toArray a.tmps) := by
      unfold Region.wanted
      cases hgd : o.guard with
      | none => rfl
      | some g =>
        have := hg g hgd
        obtain ⟨g1, g2⟩ := g
        simp only [yielded, pre_get g1 this]
    rw [hw] at h
    exact h

/-- Everything before m is listed once m is ready. -/
theorem all_before (hc : Chk l m) {ls : Array Bool} (hcl : ∀ j o, j < m → ls.getD j false = true → l[j]? = some o → ∀ e ∈ o.after, Region.binds .any e = true → ls.getD e.on false = true) (hr : m ∈ Region.ready .any l.toArray ls) : ∀ k, k ≤ m → ∀ j, m - k ≤ j → j < m → ls.getD j false = true
  | 0, _, j, h1, h2 => by omega
  | k + 1, hk, j, h1, h2 => by
    obtain ⟨j', o, h3, h4, h5, e, he, hon, hb⟩ := hc.up j h2
    by_cases e2 : j' = m
    · subst e2
      obtain ⟨_, _, o', ho', hall⟩ := ready_iff.1 hr
      have : o' = o := by simpa [h5] using ho'.symm
      subst this
      rw [← hon]
      exact hall e he hb
    · rw [← hon]
      exact hcl j' o (by omega) (all_before hc hcl hr k (by omega) j' (by omega) (by omega)) h5 e he hb

/-- Before m, some operation is ready while one is not listed. -/
theorem some_ready (hc : Chk l m) {ls : Array Bool} (hls : ls.size = m + 2) {j : Nat} (hj : j < m) (hn : ls.getD j false = false) : ∃ i, i < m ∧ i ∈ Region.ready .any l.toArray ls := by
  induction j using Nat.strongRecOn with
  | ind j ih =>
    have hlj : j < l.length := by rw [hc.len]; omega
    by_cases hall : ∀ e ∈ l[j].after, Region.binds .any e = true → ls.getD e.on false = true
    · refine ⟨j, hj, ready_iff.2 ⟨by simpa using hlj, ?_, l[j], by simp [hlj], hall⟩⟩
      have : j < ls.size := by omega
      simpa [Array.getD, this] using hn
    · simp only [Classical.not_forall] at hall
      obtain ⟨e, he, hb, hne⟩ := hall
      have hlt := (hc.low j l[j] hj (by simp [hlj])).1 e he
      exact ih e.on hlt (by omega) (by simpa using hne)

theorem getD_set {ls : Array Bool} {i j : Nat} {d : Bool} (h : j ≠ i) : (ls.setIfInBounds i true).getD j d = ls.getD j d := by
  simp [Array.getD_eq_getD_getElem?, Array.getElem?_setIfInBounds_ne (Ne.symm h)]
theorem getD_set_same {ls : Array Bool} {i : Nat} {d : Bool} (h : i < ls.size) : (ls.setIfInBounds i true).getD i d = true := by
  simp [Array.getD_eq_getD_getElem?, h]
theorem getD_flip {ls : Array Bool} {i : Nat} (h : i < ls.size) (a b : Bool) : ls.getD i a = ls.getD i b := by
  simp [Array.getD, h]

theorem wpAny_split (hc : Chk l m)
    (hfin : ∀ a w, C w → Qa a → wpOp P l.toArray Q m (fun a w => wpOp P l.toArray Q (m + 1) (fun a w => Q .normal a w) a w) a w)
    {fuel : Nat} {a : Act} {w : World} (hw : C w) (hq : wpAnyQ P .any (l.take m).toArray C Qa fuel (Array.replicate m false) a) :
    wpAny P .any l.toArray Q (m + 2) (Array.replicate (m + 2) false) a w := by
  have hsz : l.toArray.size = m + 2 := by simpa using hc.len
  have hpsz : (l.take m).toArray.size = m := by simp [hc.len]
  let I : Array Bool → Act → World → Prop := fun ls a w => ls.size = m + 2 ∧
    ((ls.getD m true = false ∧ ls.getD (m + 1) true = false ∧ (∀ j o, j < m → ls.getD j false = true → l[j]? = some o → ∀ e ∈ o.after, Region.binds .any e = true → ls.getD e.on false = true) ∧ C w ∧
        ∃ fuel lp, lp.size = m ∧ (∀ j, j < m → lp.getD j true = ls.getD j true) ∧ wpAnyQ P .any (l.take m).toArray C Qa fuel lp a) ∨
     ((∀ j, j ≤ m → ls.getD j false = true) ∧ ls.getD (m + 1) true = false ∧ wpOp P l.toArray Q (m + 1) (fun a w => Q .normal a w) a w) ∨
     ((∀ j, j ≤ m + 1 → ls.getD j false = true) ∧ Q .normal a w))
  have hpr : ∀ (ls lp : Array Bool), ls.size = m + 2 → lp.size = m → (∀ j, j < m → lp.getD j true = ls.getD j true) → ∀ i, i < m → (i ∈ Region.ready .any (l.take m).toArray lp ↔ i ∈ Region.ready .any l.toArray ls) := by
    intro ls lp h1 h2 h3 i hi
    rw [ready_iff, ready_iff, hpsz, hsz, pre_get i hi, h3 i hi]
    have hgo : ∀ k, k < m → lp.getD k false = ls.getD k false := fun k hk => by rw [getD_flip (by omega) false true, h3 k hk, getD_flip (by omega) true false]
    constructor
    · rintro ⟨_, q2, o, q3, q4⟩
      exact ⟨by omega, q2, o, q3, fun e he hb => by rw [← hgo _ (by have := (hc.low i o hi (by simpa using q3)).1 e he; omega)]; exact q4 e he hb⟩
    · rintro ⟨_, q2, o, q3, q4⟩
      exact ⟨hi, q2, o, q3, fun e he hb => by rw [hgo _ (by have := (hc.low i o hi (by simpa using q3)).1 e he; omega)]; exact q4 e he hb⟩
  refine wpAny_inv I ?_ ?_ (m + 2) _ a w ?_ ?_
  · -- nothing is ready any more
    rintro ls a w ⟨h1, hA | hB | hD⟩ hr
    · exfalso
      obtain ⟨a1, a2, a3, a4, f, lp, a5, a6, a7⟩ := hA
      by_cases hall : ∀ j, j < m → ls.getD j false = true
      · have hm : m ∈ Region.ready .any l.toArray ls := by
          have hlm : m < l.length := by rw [hc.len]; omega
          exact ready_iff.2 ⟨by omega, a1, l[m], by simp [hlm], fun e he hb => hall _ (hc.lowm l[m] (by simp [hlm]) e he)⟩
        rw [hr] at hm; cases hm
      · simp only [Classical.not_forall] at hall
        obtain ⟨j, hj, hn⟩ := hall
        obtain ⟨i, _, hi⟩ := some_ready hc h1 hj (by simpa using hn)
        rw [hr] at hi; cases hi
    · exfalso
      obtain ⟨b1, b2, b3⟩ := hB
      have hlm : m + 1 < l.length := by rw [hc.len]; omega
      have hm : m + 1 ∈ Region.ready .any l.toArray ls := ready_iff.2 ⟨by omega, b2, l[m + 1], by simp [hlm], fun e he hb => b1 _ (by have := (hc.last l[m + 1] (by simp [hlm])).1 e he; omega)⟩
      rw [hr] at hm; cases hm
    · exact hD.2
  · -- one more
    rintro ls a w i ⟨h1, hA | hB | hD⟩ hi
    · obtain ⟨a1, a2, a3, a4, f, lp, a5, a6, a7⟩ := hA
      obtain ⟨r1, r2, o, r3, r4⟩ := ready_iff.1 hi
      by_cases him : i < m
      · have hip := (hpr ls lp h1 a5 a6 i him).2 hi
        cases f with
        | zero => have := a7.1; rw [this] at hip; cases hip
        | succ f =>
          refine wpOp_of_qOp a4 (fun a' w' hw' hk => ?_) (qOp_pre hc him (a7.2 i hip))
          refine ⟨by simpa using h1, .inl ⟨by rw [getD_set (by omega)]; exact a1, by rw [getD_set (by omega)]; exact a2, ?_, hw', f, lp.setIfInBounds i true, by simpa using a5, ?_, hk⟩⟩
          · intro j o' hj hl' ho' e he hb
            by_cases e1 : e.on = i
            · rw [e1]; exact getD_set_same (by omega)
            rw [getD_set e1]
            by_cases e2 : j = i
            · subst e2
              have : o' = o := by simpa [ho'] using r3
              subst this
              exact r4 e he hb
            · rw [getD_set e2] at hl'
              exact a3 j o' hj hl' ho' e he hb
          · intro j hj
            by_cases e2 : j = i
            · subst e2; rw [getD_set_same (by omega), getD_set_same (by omega)]
            · rw [getD_set e2, getD_set e2]; exact a6 j hj
      · by_cases him2 : i = m
        · subst him2
          have hall : ∀ j, j < i → ls.getD j false = true := fun j hj => all_before hc a3 hi i (Nat.le_refl _) j (by omega) hj
          have hre : Region.ready .any (l.take i).toArray lp = [] := by
            cases hr : Region.ready .any (l.take i).toArray lp with
            | nil => rfl
            | cons k r =>
              have hk : k ∈ Region.ready .any (l.take i).toArray lp := by rw [hr]; exact List.mem_cons_self
              obtain ⟨k1, k2, _⟩ := ready_iff.1 hk
              rw [hpsz] at k1
              rw [a6 k k1, getD_flip (by omega) true false, hall k k1] at k2
              cases k2
          have hqa : Qa a := by
            cases f with
            | zero => exact a7.2
            | succ f => exact a7.1 hre
          refine wpOp_mono (fun a' w' h' => ⟨by simpa using h1, .inr (.inl ⟨fun j hj => ?_, by rw [getD_set (by omega)]; exact a2, h'⟩)⟩) (hfin a w a4 hqa)
          by_cases e2 : j = i
          · subst e2; exact getD_set_same (by omega)
          · rw [getD_set e2]; exact hall j (by omega)
        · exfalso
          have : i = m + 1 := by omega
          subst this
          obtain ⟨_, e, he, hon, hb⟩ := hc.last o (by simpa using r3)
          have := r4 e he hb
          rw [hon, getD_flip (by omega) false true, a1] at this
          cases this
    · obtain ⟨b1, b2, b3⟩ := hB
      obtain ⟨r1, r2, o, r3, r4⟩ := ready_iff.1 hi
      have : i = m + 1 := by
        rcases Nat.lt_or_ge m i with h | h
        · omega
        · have := b1 i h
          rw [getD_flip (by omega) false true, r2] at this
          cases this
      subst this
      refine wpOp_mono (fun a' w' h' => ⟨by simpa using h1, .inr (.inr ⟨fun j hj => ?_, h'⟩)⟩) b3
      by_cases e2 : j = m + 1
      · subst e2; exact getD_set_same (by omega)
      · rw [getD_set e2]; exact b1 j (by omega)
    · exfalso
      obtain ⟨r1, r2, _⟩ := ready_iff.1 hi
      have := hD.1 i (by omega)
      rw [getD_flip (by omega) false true, r2] at this
      cases this
  · simp [leftOf]
  · refine ⟨by simp, .inl ⟨by simp [Array.getD], by simp [Array.getD], fun j o hj hl => ?_, hw, fuel, Array.replicate m false, by simp, fun j hj => ?_, hq⟩⟩
    · simp [Array.getD, show j < m + 2 by omega] at hl
    · simp [Array.getD, hj, show j < m + 2 by omega]

/-- The region's wp. -/
theorem wp_region_split {id : Nat} {a : Act} {w : World} (m : Nat) (hm : P.follows .mixedOrders = true) (hc : chkB l m = true) (hB : Region.lexB .any (l.take m).toArray = true)
    (h : wpQuiet P (l.take m).toArray (fun w' => ∃ n, w' = w.drewN n) (fun a' => ∀ w', (∃ n, w' = w.drewN n) → wpOp P l.toArray Q m (fun a w => wpOp P l.toArray Q (m + 1) (fun a w => Q .normal a w) a w) a' w') (l.take m) a) : (Code.region id l.toArray true).wp P Q a w := by
  have hk := chk_of hc
  have hsz : l.toArray.size = m + 2 := by simpa using hk.len
  have hpsz : (l.take m).length = m := by simp [hk.len]
  refine wp_region_any hm ?_
  rw [hsz]
  simp only [Region.lexB, Bool.and_eq_true] at hB
  have hl := wpAnyQ_lex (C := fun w' => ∃ n, w' = w.drewN n) (md := .any) hB.1 (l.take m) 0 (Array.replicate (l.take m).toArray.size false) a (by simp) (by simpa using hB.2) h
  rw [show (l.take m).toArray.size = m by simpa using hpsz] at hl
  exact wpAny_split hk (C := fun w' => ∃ n, w' = w.drewN n) (fun a' w' hw' hq => hq w' hw') ⟨1, rfl⟩ hl
end
end Go.Proofs.Ybulkeca
