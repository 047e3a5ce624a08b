import Derived.Test.YbulkdzwFmtClone
import Derived.Orders
set_option linter.unusedVariables false
namespace Go.Proofs.YbulkdzwFmt
open Go.RowKit Go.Extern.Stop Go.Stop Go.Extern

/-! ### A region that draws its order, by an invariant over what has been listed -/

def leftOf (l : Array Bool) : Nat := (l.toList.filter (fun b => !b)).length

theorem filter_set : ∀ (l : List Bool) (i : Nat), l[i]? = some false → ((l.set i true).filter (fun b => !b)).length + 1 = (l.filter (fun b => !b)).length
  | [], i, h => by simp at h
  | b :: l, 0, h => by simp at h; subst h; simp
  | b :: l, i + 1, h => by
    have := filter_set l i (by simpa using h)
    cases b <;> simp at this ⊢ <;> omega

theorem leftOf_set {l : Array Bool} {i : Nat} (h : l.getD i true = false) : leftOf (l.setIfInBounds i true) + 1 = leftOf l := by
  unfold leftOf
  rw [Array.toList_setIfInBounds]
  refine filter_set l.toList i ?_
  by_cases hi : i < l.size
  · have : l[i] = false := by simpa [Array.getD, hi] using h
    simp [hi, this]
  · simp [Array.getD, hi] at h

theorem ready_spec {md : Region.Mode} {ops : Array Oper} {l : Array Bool} {i : Nat} (h : i ∈ Region.ready md ops l) : i < ops.size ∧ l.getD i true = false ∧ ((ops[i]?).map (·.after.all fun e => !Region.binds md e || l.getD e.on false)).getD false = true := by
  simp only [Region.ready, List.mem_filter, List.mem_range, Bool.and_eq_true, Bool.not_eq_true'] at h
  exact ⟨h.1, h.2.1, h.2.2⟩

theorem wpAny_inv {P : Program} {ops : Array Oper} {Q : Exit → Act → World → Prop} {md : Region.Mode} (I : Array Bool → Act → World → Prop)
    (hdone : ∀ l a w, I l a w → Region.ready md ops l = [] → Q .normal a w)
    (hstep : ∀ l a w i, I l a w → i ∈ Region.ready md ops l → wpOp P ops Q i (I (l.setIfInBounds i true)) a w) :
    ∀ (fuel : Nat) (l : Array Bool) (a : Act) (w : World), leftOf l ≤ fuel → I l a w → wpAny P md ops Q fuel l a w
  | 0, l, a, w, hf, h => by
    have hr : Region.ready md ops l = [] := by
      cases hr : Region.ready md ops l with
      | nil => rfl
      | cons i r =>
        have := leftOf_set (ready_spec (hr ▸ List.mem_cons_self : i ∈ Region.ready md ops l)).2.1
        omega
    exact ⟨hr, hdone l a w h hr⟩
  | fuel + 1, l, a, w, hf, h => by
    refine ⟨hdone l a w h, fun i hi => ?_⟩
    have := leftOf_set (ready_spec hi).2.1
    exact wpOp_mono (fun a' w' h' => wpAny_inv I hdone hstep fuel _ a' w' (by omega) h') (hstep l a w i h hi)

/-! ### Frames that agree but at some slots -/

structure Ag (D : List Nat) (a0 a : Act) : Prop where
  df : a.defers = a0.defers
  sz : a.tmps.size = a0.tmps.size
  oth : ∀ s, s ∉ D → a.tmps[s]? = a0.tmps[s]?

def sl (a : Act) (s : Nat) : Value := a.tmps.getD s undef

theorem Ag.put {D : List Nat} {a0 a : Act} (h : Ag D a0 a) {d : Nat} (hd : d ∈ D) (v : Value) : Ag D a0 (a.put (some d) v) :=
  ⟨h.df, by simp [Act.put]; exact h.sz, fun s hs => by
    have hne : d ≠ s := fun e => hs (by rw [← e]; exact hd)
    simp only [Act.put]
    rw [Array.getElem?_setIfInBounds_ne hne]
    exact h.oth s hs⟩

theorem sl_put_same {a : Act} {d : Nat} (hd : d < a.tmps.size) (v : Value) : sl (a.put (some d) v) d = v := by
  simp [sl, Act.put, Array.getD, hd]
theorem sl_put_other {a : Act} {d s : Nat} (hs : d ≠ s) (v : Value) : sl (a.put (some d) v) s = sl a s := by
  simp [sl, Act.put, Array.getElem?_setIfInBounds_ne hs]

/-- The invariant: what each operation that is listed has left in its slot. -/
def I9 (D : List Nat) (d : Nat → Nat) (n B : Nat) (a0 : Act) (w0 : World) (S : Nat → World → Value → Prop) (l : Array Bool) (a : Act) (w : World) : Prop :=
  Ag D a0 a ∧ Below B w0 w ∧ l.size = n ∧ ∀ j, j < n → l.getD j false = true → S j w (sl a (d j))

theorem I9.step {D : List Nat} {d : Nat → Nat} {n B : Nat} {a0 : Act} {w0 : World} {S : Nat → World → Value → Prop} (hmono : ∀ j w w' v, S j w v → Below w.heap.size w w' → S j w' v) (hD : ∀ j, j < n → d j ∈ D) (hdi : ∀ i j, i < n → j < n → d i = d j → i = j)
    {l : Array Bool} {a : Act} {w w' : World} {i : Nat} {v : Value} (hi : i < n) (hsz : d i < a0.tmps.size) (hB : B ≤ w.heap.size) (h : I9 D d n B a0 w0 S l a w) (hv : S i w' v) (hb : Below w.heap.size w w') : I9 D d n B a0 w0 S (l.setIfInBounds i true) (a.put (some (d i)) v) w' := by
  obtain ⟨h1, h2, hls, h3⟩ := h
  refine ⟨h1.put (hD i hi) v, h2.trans (hb.mono hB), by simpa using hls, fun j hj hl => ?_⟩
  by_cases e : j = i
  · subst e
    rw [sl_put_same (by rw [h1.sz]; exact hsz)]
    exact hv
  · rw [sl_put_other (fun q => e (hdi i j hi hj q).symm)]
    refine hmono j w w' _ (h3 j hj ?_) hb
    simpa [Array.getElem?_setIfInBounds_ne (Ne.symm e)] using hl

theorem wpOp_wp {P : Program} {ops : Array Oper} {Q : Exit → Act → World → Prop} {K : Act → World → Prop} {a : Act} {w : World} {i : Nat} {o : Oper} (ho : ops[i]? = some o) (hg : o.guard = none) (h : o.wp P a w K Q) : wpOp P ops Q i K a w := by
  unfold wpOp
  rw [ho]
  simp only [Region.wanted, hg]
  exact .inl h

section
variable {P : Program} {Q : Exit → Act → World → Prop} {K : Act → World → Prop} {a : Act} {w : World} {o : Oper}
theorem op_move (x : Operand) (hop : o.op = .move x) (hK : K (a.put o.dst (a.eval x)) w) : o.wp P a w K Q := by
  unfold Oper.wp; simp [execOp, hop]; exact hK
theorem op_assign (x : Operand) (hop : o.op = .assign x) (hK : K (a.put o.dst (a.eval x)) w) : o.wp P a w K Q := by
  unfold Oper.wp; simp [execOp, hop]; exact hK
theorem op_map (t : TypeId) (hop : o.op = .makeMap t none) (hK : K (a.put o.dst (.map (some w.heap.size))) (w.alloc (.map #[] 0))) : o.wp P a w K Q := by
  unfold Oper.wp; simp [execOp, hop, run_makeMap, Result.andThen]; exact hK
theorem op_iface (t : TypeId) (x : Operand) (hop : o.op = .makeInterface t x) (hr : ∀ v, (Instr.makeInterface t v).run P w = .ok (.iface t v) w) (hK : K (a.put o.dst (.iface t (a.eval x))) w) : o.wp P a w K Q := by
  unfold Oper.wp; simp [execOp, hop, hr, Result.andThen]; exact hK
theorem op_chan (t : TypeId) (x : Operand) (hop : o.op = .makeChan t x) (hr : (Instr.makeChan t (a.eval x)).run P w = .ok (.chan (some w.heap.size)) (w.alloc (.chan 0 #[] false 0 0 false))) (hK : K (a.put o.dst (.chan (some w.heap.size))) (w.alloc (.chan 0 #[] false 0 0 false))) : o.wp P a w K Q := by
  unfold Oper.wp; simp [execOp, hop, hr, Result.andThen]; exact hK
theorem op_run (v : Value) (w' : World) (hop : (execOp a.eval o).run P w = .ok (.value v) w') (hK : K (a.put o.dst v) w') : o.wp P a w K Q := by
  unfold Oper.wp; rw [hop]; exact hK
end
theorem mkIface28 (v : Value) (w : World) : (Instr.makeInterface 28 v).run Ybaf.prog w = .ok (.iface 28 v) w := by kernel_rfl
theorem mkChan36 (w : World) : (Instr.makeChan 36 (.int .i64 0)).run Ybaf.prog w = .ok (.chan (some w.heap.size)) (w.alloc (.chan 0 #[] false 0 0 false)) := by kernel_rfl

/-- What is asked of the region's operations. -/
structure Ops9 (ops : Array Oper) : Prop where
  o0 : ∃ ty pos aft, ops[0]? = some ⟨some 39, .move (.tmp 0), ty, pos, aft, none⟩
  o1 : ∃ ty pos aft, ops[1]? = some ⟨some 40, .call { callee := .value (.func 5), args := #[.tmp 39], argTypes := #[22] }, ty, pos, aft, none⟩
  o2 : ∃ ty pos aft, ops[2]? = some ⟨some 41, .move (.tmp 14), ty, pos, aft, none⟩
  o3 : ∃ ty pos aft, ops[3]? = some ⟨some 42, .makeInterface 28 (.tmp 41), ty, pos, aft, none⟩
  o4 : ∃ ty pos aft, ops[4]? = some ⟨some 43, .makeMap 34 none, ty, pos, aft, none⟩
  o5 : ∃ ty pos aft, ops[5]? = some ⟨some 44, .makeMap 35 none, ty, pos, aft, none⟩
  o6 : ∃ ty pos aft, ops[6]? = some ⟨some 45, .makeChan 36 (.const (.int .i64 0)), ty, pos, aft, none⟩
  o7 : ∃ ty pos aft, ops[7]? = some ⟨some 46, .makeChan 36 (.const (.int .i64 0)), ty, pos, aft, none⟩
  o8 : ∃ ty pos aft, ops[8]? = some ⟨some 47, .build 49 #[(1, .const (.string { data := #[109, 101] })), (2, .tmp 40), (4, .tmp 42), (5, .tmp 43), (6, .tmp 44), (8, .tmp 45), (9, .tmp 46)], ty, pos, aft, none⟩
  o9 : ∃ ty pos aft, ops[9]? = some ⟨some 48, .box 49 (.tmp 47), ty, pos, aft, none⟩
  o10 : ∃ ty pos aft, ops[10]? = some ⟨some 15, .assign (.tmp 48), ty, pos, aft, none⟩
  sz : ops.size = 11
  r1 : ∀ l, 1 ∈ Region.ready .any ops l → l.getD 0 false = true
  r3 : ∀ l, 3 ∈ Region.ready .any ops l → l.getD 2 false = true
  r8 : ∀ l, 8 ∈ Region.ready .any ops l → l.getD 1 false = true ∧ l.getD 3 false = true ∧ l.getD 4 false = true ∧ l.getD 5 false = true ∧ l.getD 6 false = true ∧ l.getD 7 false = true
  r9 : ∀ l, 9 ∈ Region.ready .any ops l → l.getD 8 false = true
  r10 : ∀ l, 10 ∈ Region.ready .any ops l → l.getD 9 false = true
  fin : ∀ l : Array Bool, l.size = 11 → Region.ready .any ops l = [] → l.getD 10 false = true

/-- A clone of the law's list of others. -/
def Cl (n : Nat) (os : Nat → ByteArray) (w : World) (v : Value) : Prop :=
  ∃ oa cap ob, v = .slice oa n cap ∧ (0 < n → ob < w.heap.size) ∧ ∀ j, j < n → oa = some ⟨ob, 0, none⟩ ∧ w.cell? ⟨ob, j, none⟩ = some (.string (os j))

theorem Cl.mono {n : Nat} {os : Nat → ByteArray} {w w' : World} {v : Value} (h : Cl n os w v) (hb : Below w.heap.size w w') : Cl n os w' v := by
  obtain ⟨oa, cap, ob, rfl, h1, h2⟩ := h
  refine ⟨oa, cap, ob, rfl, fun h0 => Nat.lt_of_lt_of_le (h1 h0) hb.size, fun j hj => ⟨(h2 j hj).1, (hb.cell (p := ⟨ob, j, none⟩) (h1 (by omega))).trans (h2 j hj).2⟩⟩

def openChan : Obj := .chan 0 #[] false 0 0 false

/-- The process that the literal makes. -/
def Pr (n : Nat) (os : Nat → ByteArray) (T : Value) (B : Nat) (w : World) (v : Value) : Prop :=
  ∃ p v1 q h g s, v = .pointer (some ⟨p, 0, none⟩) ∧ B ≤ p ∧ w.heap[p]? = some (.cells (procCells v1 (.iface 28 T) q h g s .nilIface) 49 (0, 0)) ∧ Cl n os w v1 ∧ B ≤ s ∧ w.heap[s]? = some openChan

def S9 (V0 T : Value) (n : Nat) (os : Nat → ByteArray) (B : Nat) (j : Nat) (w : World) (v : Value) : Prop :=
  match j with
  | 0 => v = V0
  | 1 => Cl n os w v
  | 2 => v = T
  | 3 => v = .iface 28 T
  | 4 => ∃ q, v = .map q
  | 5 => ∃ q, v = .map q
  | 6 => ∃ q, v = .chan q
  | 7 => ∃ s, v = .chan (some s) ∧ B ≤ s ∧ w.heap[s]? = some openChan
  | 8 => ∃ v1 q h g s, v = .agg (procCells v1 (.iface 28 T) (.map q) (.map h) (.chan g) s .nilIface) ∧ Cl n os w v1 ∧ B ≤ s ∧ w.heap[s]? = some openChan
  | _ => Pr n os T B w v

theorem S9_mono {V0 T : Value} {n : Nat} {os : Nat → ByteArray} {B : Nat} (j : Nat) (w w' : World) (v : Value) (h : S9 V0 T n os B j w v) (hb : Below w.heap.size w w') : S9 V0 T n os B j w' v := by
  have hk : ∀ s o, w.heap[s]? = some o → w'.heap[s]? = some o := fun s o h => (hb.block s (Array.getElem?_eq_some_iff.1 h).1).trans h
  match j, h with
  | 0, h => exact h
  | 1, h => exact Cl.mono h hb
  | 2, h => exact h
  | 3, h => exact h
  | 4, h => exact h
  | 5, h => exact h
  | 6, h => exact h
  | 7, ⟨s, h1, h2, h3⟩ => exact ⟨s, h1, h2, hk _ _ h3⟩
  | 8, ⟨v1, q, h, g, s, h1, h2, h3, h4⟩ => exact ⟨v1, q, h, g, s, h1, h2.mono hb, h3, hk _ _ h4⟩
  | _ + 9, ⟨p, v1, q, h, g, s, h1, h2, h3, h4, h5, h6⟩ => exact ⟨p, v1, q, h, g, s, h1, h2, hk _ _ h3, h4.mono hb, h5, hk _ _ h6⟩

theorem build49 (oa : Option Addr) (n c : Nat) (T : Value) (q h g : Option Nat) (s : Nat) (w : World) :
    (Instr.build 49 #[(1, .string { data := #[109, 101] }), (2, .slice oa n c), (4, .iface 28 T), (5, .map q), (6, .map h), (8, .chan g), (9, .chan (some s))]).run Ybaf.prog w = .ok (.agg (procCells (.slice oa n c) (.iface 28 T) (.map q) (.map h) (.chan g) s .nilIface)) w := by kernel_rfl

theorem box49 (v T q h g : Value) (s : Nat) (w : World) : (Instr.box 49 (.agg (procCells v T q h g s .nilIface))).run Ybaf.prog w = .ok (.pointer (some ⟨w.heap.size, 0, none⟩)) (w.alloc (.cells (procCells v T q h g s .nilIface) 49 (0, 0))) := by kernel_rfl

theorem exec_build {a : Act} {w : World} {v : Value} {ty : TypeId} {pos : String} {aft : Array Edge}
    (h : (Instr.build 49 #[(1, .string { data := #[109, 101] }), (2, sl a 40), (4, sl a 42), (5, sl a 43), (6, sl a 44), (8, sl a 45), (9, sl a 46)]).run Ybaf.prog w = .ok v w) :
    (execOp a.eval ⟨some 47, .build 49 #[(1, .const (.string { data := #[109, 101] })), (2, .tmp 40), (4, .tmp 42), (5, .tmp 43), (6, .tmp 44), (8, .tmp 45), (9, .tmp 46)], ty, pos, aft, none⟩).run Ybaf.prog w = .ok (.value v) w := by
  have h' := h
  simp only [sl, Array.getD_eq_getD_getElem?] at h'
  simp [execOp, Act.eval, h', Result.andThen]

theorem op_call5 {Q : Exit → Act → World → Prop} {K : Act → World → Prop} {a : Act} {w : World} {o : Oper} {V : Value} (hop : o.op = .call { callee := .value (.func 5), args := #[.tmp 39], argTypes := #[22] }) (hx : a.eval (.tmp 39) = V)
    (h : Calls Ybaf.prog 5 #[V] w fun e w' => ∃ v, e = .returned v ∧ K (a.put o.dst v) w') : o.wp Ybaf.prog a w K Q := by
  have hx' : a.tmps[39]?.getD undef = V := by simpa [Act.eval] using hx
  have HH : Hid _ := h
  clear h
  unfold Oper.wp
  simp only [execOp, hop]
  go_simp
  refine Calls.mono HH.out ?_
  rintro e w' ⟨v, rfl, hK⟩
  exact hK

def d9 (j : Nat) : Nat := if j = 10 then 15 else 39 + j
def D9 : List Nat := [39, 40, 41, 42, 43, 44, 45, 46, 47, 48, 15]

theorem enters5 (args : Array Value) (w : World) : (callFunc 5 args).run Ybaf.prog w = .ok (.enter 5 args) w := by kernel_rfl

set_option maxRecDepth 100000 in
/-- THE LITERAL, IN WHATEVER ORDER: slot 15 holds a pointer to the process. -/
theorem nine {ops : Array Oper} (hops : Ops9 ops) {Q : Exit → Act → World → Prop} (a0 : Act) (w : World) (n : Nat) (os : Nat → ByteArray) (V0 T : Value) (ha : a0.tmps.size = 148) (h0 : sl a0 0 = V0) (h14 : sl a0 14 = T)
    (hC : ∀ w1, Below w.heap.size w w1 → Calls Ybaf.prog 5 #[V0] w1 fun e w' => ∃ v, e = .returned v ∧ Cl n os w' v ∧ Below w1.heap.size w1 w')
    (hQ : ∀ a w', Ag D9 a0 a → Below w.heap.size w w' → Pr n os T w.heap.size w' (sl a 15) → Q .normal a w') :
    Code.wp Ybaf.prog (Code.region 9 ops true) Q a0 w := by
  refine wp_region_any (by kernel_rfl) ?_
  rw [hops.sz]
  have hdi : ∀ i j, i < 11 → j < 11 → d9 i = d9 j → i = j := by
    intro i j hi hj h
    unfold d9 at h
    by_cases h1 : i = 10
    · by_cases h2 : j = 10
      · omega
      · rw [if_pos h1, if_neg h2] at h; omega
    · by_cases h2 : j = 10
      · rw [if_neg h1, if_pos h2] at h; omega
      · rw [if_neg h1, if_neg h2] at h; omega
  have hD : ∀ j, j < 11 → d9 j ∈ D9 := by
    intro j hj
    match j, hj with
    | 0, _ => decide
    | 1, _ => decide
    | 2, _ => decide
    | 3, _ => decide
    | 4, _ => decide
    | 5, _ => decide
    | 6, _ => decide
    | 7, _ => decide
    | 8, _ => decide
    | 9, _ => decide
    | 10, _ => decide
  have hsz : ∀ j, j < 11 → d9 j < a0.tmps.size := by intro j hj; rw [ha]; unfold d9; split <;> omega
  refine wpAny_inv (I9 D9 d9 11 w.heap.size a0 w (S9 V0 T n os w.heap.size)) ?_ ?_ _ _ _ _ (by decide) ⟨⟨rfl, rfl, fun _ _ => rfl⟩, (Below.refl w.heap.size w).drew, rfl, fun j hj hl => by simp [Array.getD, hj] at hl⟩
  · intro l a w' hI hr
    exact hQ a w' hI.1 hI.2.1 (hI.2.2.2 10 (by omega) (hops.fin l hI.2.2.1 hr))
  · intro l a w1 i hI hi
    have hB : w.heap.size ≤ w1.heap.size := hI.2.1.size
    have hlt := (ready_spec hi).1
    rw [hops.sz] at hlt
    have fin : ∀ (v : Value) (w' : World) (d : Option Tmp), d = some (d9 i) → S9 V0 T n os w.heap.size i w' v → Below w1.heap.size w1 w' → I9 D9 d9 11 w.heap.size a0 w (S9 V0 T n os w.heap.size) (l.setIfInBounds i true) (a.put d v) w' := by
      rintro v w' d rfl hv hb
      exact I9.step S9_mono hD hdi hlt (hsz i hlt) hB hI hv hb
    have hs := hI.2.2.2
    have hoth : ∀ s, s ∉ D9 → sl a s = sl a0 s := by intro s hs; simp only [sl, Array.getD_eq_getD_getElem?]; rw [hI.1.oth s hs]
    match i, hi, hlt, fin with
    | 0, hi, hlt, fin =>
      obtain ⟨ty, pos, aft, ho⟩ := hops.o0
      exact wpOp_wp ho rfl (op_move (.tmp 0) rfl (fin _ _ _ rfl ((hoth 0 (by decide)).trans h0) (Below.refl _ _)))
    | 1, hi, hlt, fin =>
      obtain ⟨ty, pos, aft, ho⟩ := hops.o1
      refine wpOp_wp ho rfl ?_
      have h39 : a.eval (.tmp 39) = V0 := hs 0 (by omega) (hops.r1 l hi)
      refine op_call5 rfl h39 ?_
      exact (hC w1 hI.2.1).mono fun e w' ⟨v, he, hcl, hb⟩ => ⟨v, he, fin _ _ _ rfl hcl hb⟩
    | 2, hi, hlt, fin =>
      obtain ⟨ty, pos, aft, ho⟩ := hops.o2
      exact wpOp_wp ho rfl (op_move (.tmp 14) rfl (fin _ _ _ rfl ((hoth 14 (by decide)).trans h14) (Below.refl _ _)))
    | 3, hi, hlt, fin =>
      obtain ⟨ty, pos, aft, ho⟩ := hops.o3
      have h41 : a.eval (.tmp 41) = T := hs 2 (by omega) (hops.r3 l hi)
      exact wpOp_wp ho rfl (op_iface 28 (.tmp 41) rfl (fun v => mkIface28 v w1) (fin _ _ _ rfl (by rw [h41]; rfl) (Below.refl _ _)))
    | 4, hi, hlt, fin =>
      obtain ⟨ty, pos, aft, ho⟩ := hops.o4
      exact wpOp_wp ho rfl (op_map 34 rfl (fin _ _ _ rfl ⟨_, rfl⟩ ((Below.refl _ _).alloc (Nat.le_refl _) _)))
    | 5, hi, hlt, fin =>
      obtain ⟨ty, pos, aft, ho⟩ := hops.o5
      exact wpOp_wp ho rfl (op_map 35 rfl (fin _ _ _ rfl ⟨_, rfl⟩ ((Below.refl _ _).alloc (Nat.le_refl _) _)))
    | 6, hi, hlt, fin =>
      obtain ⟨ty, pos, aft, ho⟩ := hops.o6
      exact wpOp_wp ho rfl (op_chan 36 _ rfl (mkChan36 w1) (fin _ _ _ rfl ⟨_, rfl⟩ ((Below.refl _ _).alloc (Nat.le_refl _) _)))
    | 7, hi, hlt, fin =>
      obtain ⟨ty, pos, aft, ho⟩ := hops.o7
      exact wpOp_wp ho rfl (op_chan 36 _ rfl (mkChan36 w1) (fin _ _ _ rfl ⟨_, rfl, hB, (MapKept.heap_alloc w1 _).1⟩ ((Below.refl _ _).alloc (Nat.le_refl _) _)))
    | 8, hi, hlt, fin =>
      obtain ⟨ty, pos, aft, ho⟩ := hops.o8
      obtain ⟨l1, l3, l4, l5, l6, l7⟩ := hops.r8 l hi
      have e1 : Cl n os w1 (sl a 40) := hs 1 (by omega) l1
      have e3 : sl a 42 = .iface 28 T := hs 3 (by omega) l3
      obtain ⟨q, e4⟩ : ∃ q, sl a 43 = .map q := hs 4 (by omega) l4
      obtain ⟨h, e5⟩ : ∃ q, sl a 44 = .map q := hs 5 (by omega) l5
      obtain ⟨g, e6⟩ : ∃ q, sl a 45 = .chan q := hs 6 (by omega) l6
      obtain ⟨s, e7, hBs, hsc⟩ : ∃ s, sl a 46 = .chan (some s) ∧ w.heap.size ≤ s ∧ w1.heap[s]? = some openChan := hs 7 (by omega) l7
      have e1' := e1
      obtain ⟨oa, cap, ob, hv, _⟩ := e1'
      refine wpOp_wp ho rfl (op_run (.agg (procCells (sl a 40) (.iface 28 T) (.map q) (.map h) (.chan g) s .nilIface)) w1 ?_ (fin _ _ _ rfl ⟨_, _, _, _, _, rfl, e1, hBs, hsc⟩ (Below.refl _ _)))
      have hb := build49 oa n cap T q h g s w1
      rw [← hv, ← e3, ← e4, ← e5, ← e6, ← e7] at hb
      rw [← e3, ← e4, ← e5, ← e6]
      exact exec_build hb
    | 9, hi, hlt, fin =>
      obtain ⟨ty, pos, aft, ho⟩ := hops.o9
      obtain ⟨v1, q, h, g, s, e8, hcl, hBs, hsc⟩ : ∃ v1 q h g s, sl a 47 = .agg (procCells v1 (.iface 28 T) (.map q) (.map h) (.chan g) s .nilIface) ∧ Cl n os w1 v1 ∧ w.heap.size ≤ s ∧ w1.heap[s]? = some openChan := hs 8 (by omega) (hops.r9 l hi)
      have e8' : a.eval (.tmp 47) = .agg (procCells v1 (.iface 28 T) (.map q) (.map h) (.chan g) s .nilIface) := e8
      have bel : Below w1.heap.size w1 (w1.alloc (.cells (procCells v1 (.iface 28 T) (.map q) (.map h) (.chan g) s .nilIface) 49 (0, 0))) := (Below.refl _ _).alloc (Nat.le_refl _) _
      refine wpOp_wp ho rfl (op_run (.pointer (some ⟨w1.heap.size, 0, none⟩)) (w1.alloc (.cells (procCells v1 (.iface 28 T) (.map q) (.map h) (.chan g) s .nilIface) 49 (0, 0))) ?_ (fin _ _ _ rfl ⟨w1.heap.size, v1, _, _, _, s, rfl, hB, (MapKept.heap_alloc w1 _).1, hcl.mono bel, hBs, (bel.block s (Array.getElem?_eq_some_iff.1 hsc).1).trans hsc⟩ bel))
      simp only [execOp, e8']
      simp [box49, Result.andThen]
    | 10, hi, hlt, fin =>
      obtain ⟨ty, pos, aft, ho⟩ := hops.o10
      exact wpOp_wp ho rfl (op_assign (.tmp 48) rfl (fin _ _ _ rfl (hs 9 (by omega) (hops.r10 l hi)) (Below.refl _ _)))
end Go.Proofs.YbulkdzwFmt
