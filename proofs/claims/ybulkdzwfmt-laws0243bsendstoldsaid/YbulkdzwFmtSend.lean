import Derived.Test.YbulkdzwFmtStop
import Derived.Deep.RegionLaw
set_option linter.unusedVariables false
namespace Go.Proofs.YbulkdzwFmt
open Go.RowKit Go.Extern.Stop Go.Stop Go.Extern

theorem info9 : (Ybaf.prog.info? 9).map (fun i => (i.zero, i.size, i.bytes)) = some (some (.string { data := #[] }), 1, 16) := by kernel_rfl
theorem info59 : (Ybaf.prog.info? 59).map (fun i => (i.zero, i.size, i.bytes)) = some (some (.agg #[.int .u8 0, .int .u64 0, .string { data := #[] }, .slice none 0 0]), 4, 56) := by kernel_rfl

theorem own_shape {w : World} {base e size n : Nat} {v : Value} {xs : List Value} (h : w.ownsRow base e size v (n + 1) xs) : ∃ g cap, v = .slice (some ⟨g, 0, none⟩) (n + 1) cap := by
  rcases h.2 with ⟨_, h⟩ | ⟨g, cap, cur, hv, _⟩
  · omega
  · exact ⟨g, cap, hv⟩

theorem wpList_append_one {P : Program} (w : World) {ops : Array Oper} {rest : List Oper} {o : Oper} {a : Act} {Q : Exit → Act → World → Prop} (hgd : o.guard = none) (s x : Operand) (t : TypeId)
    (ho : o.op = .call { callee := .builtin .append, args := #[s, x], argTypes := #[t, t] })
    (base : Nat) (e : TypeId) (i : TypeInfo) (z : Value) (size bytes : Nat) (ht : P.underlying t = some (.slice e)) (hi : P.info? e = some i) (hz : i.zero = some z)
    (hsize : i.size = size) (hby : i.bytes = bytes) (hzs : z.cells.size = size) (hsz : 0 < size)
    (v : Value) (n : Nat) (xs : List Value) (hs : a.eval s = v) (hown : w.ownsRow base e size v n xs)
    (ad : Addr) (c : Nat) (news : List Value) (hx : a.eval x = .slice (some ad) 1 c) (hl : news.length = 1 * size) (hnews : ∀ j u, news[j]? = some u → w.cell? (ad.add j) = some u) (h1 : ∀ u ∈ news, u.oneCell' = true)
    (h63 : n + 1 ≤ maxLen) (hbytes : (n + 1) * bytes ≤ 140737488355328) (hbase : base ≤ w.heap.size)
    (h : ∀ g cp w', w'.ownsRow base e size (.slice (some ⟨g, 0, none⟩) (n + 1) cp) (n + 1) (xs ++ news) → w.grownBy w' v.ownBlock → wpList P ops Q rest (a.put o.dst (.slice (some ⟨g, 0, none⟩) (n + 1) cp)) w') : wpList P ops Q (o :: rest) a w := by
  refine wpList_append_own w hgd s x t ho base e i z size bytes ht hi hz hsize hby hzs hsz v n xs hs hown ad 1 c news hx hl hnews h1 h63 hbytes hbase ?_
  intro v' w' h2 h3 _
  obtain ⟨g, cap, rfl⟩ := own_shape h2
  exact h g cap w' h2 h3

theorem step_append_one {P : Program} {ops : Array Oper} {o : Oper} {a : Act} {w : World} {K : Act → World → Prop} {Q : Exit → Act → World → Prop} {E : Prop}
    (hg : o.guard = none) (s x : Operand) (t : TypeId) (hop : o.op = Op.call { callee := Callee.builtin Builtin.append, args := #[s, x], argTypes := #[t, t] })
    (base : Nat) (e : TypeId) (i : TypeInfo) (z : Value) (size bytes : Nat) (ht : P.underlying t = some (.slice e)) (hi : P.info? e = some i) (hz : i.zero = some z)
    (hsize : i.size = size) (hby : i.bytes = bytes) (hzs : z.cells.size = size) (hsz : 0 < size)
    (v : Value) (n : Nat) (xs : List Value) (hs : a.eval s = v) (ad : Addr) (c : Nat) (news : List Value) (hx : a.eval x = .slice (some ad) 1 c) (hown : w.ownsRow base e size v n xs)
    (hl : news.length = 1 * size) (hnews : ∀ j u, news[j]? = some u → w.cell? (ad.add j) = some u) (h1 : ∀ u ∈ news, u.oneCell' = true)
    (h63 : n + 1 ≤ maxLen) (hbytes : (n + 1) * bytes ≤ 140737488355328) (hbase : base ≤ w.heap.size)
    (hK : ∀ g cp w', w'.ownsRow base e size (.slice (some ⟨g, 0, none⟩) (n + 1) cp) (n + 1) (xs ++ news) → w.grownBy w' v.ownBlock → K (a.put o.dst (.slice (some ⟨g, 0, none⟩) (n + 1) cp)) w') :
    if Region.wanted o (yielded ops a.tmps) = true then Oper.wp P o a w K Q else E := by
  have hw : Region.wanted o (yielded ops a.tmps) = true := by simp [Region.wanted, hg]
  rw [if_pos hw]
  obtain ⟨v', w', hrun, r1, r2, _⟩ := run_append_own (P := P) w base t o.type e i z size bytes ht hi hz hsize hby hzs hsz v n xs hown ad 1 c news hl hnews h1 h63 hbytes hbase
  obtain ⟨g, cap, rfl⟩ := own_shape r1
  unfold Oper.wp
  simp [execOp, hop, resolve, invoke, builtin, hs, hx, hrun, Result.andThen]
  exact hK g cap w' r1 r2

/-- The law's transport, in block t: what it was told, in rows of the call's own from block 'base' on. -/
structure Tr (w : World) (t base : Nat) (f : Int) (er : Value) (k : Nat) (tos msgs : List Value) (tv mv : Value) : Prop where
  blk : w.heap[t]? = some (.cells #[.int .i64 f, er, .int .i64 k, tv, mv] 31 (0, 0))
  own1 : w.ownsRow base 9 1 tv k tos
  own2 : w.ownsRow base 59 4 mv k msgs
  tb : t < base
  sz : base ≤ w.heap.size

theorem own_block {wr : World} {base e size n : Nat} {v : Value} {xs : List Value} (h : wr.ownsRow base e size v n xs) (i : Nat) (hi : i < base) : some i ≠ v.ownBlock := by
  rcases h.2 with ⟨rfl, _⟩ | ⟨g, cap, cur, rfl, hg, _⟩
  · simp [Value.ownBlock]
  · simp [Value.ownBlock]; omega

/-- Two owned rows of different element types lie apart: growth of the one leaves the other. -/
theorem own_apart {w w' : World} {base e e' size size' n n' : Nat} {v v' : Value} {xs xs' : List Value} (h : w.ownsRow base e size v n xs) (h' : w.ownsRow base e' size' v' n' xs') (hne : e ≠ e') {o : Obj} (hg : (w.alloc o).grownBy w' v'.ownBlock) : w'.ownsRow base e size v n xs := by
  obtain ⟨h1, h2⟩ := h
  refine ⟨h1, ?_⟩
  rcases h2 with h2 | ⟨g, cap, cur, hv, hgb, hh, r⟩
  · exact .inl h2
  · have hlt := (Array.getElem?_eq_some_iff.1 hh).1
    refine .inr ⟨g, cap, cur, hv, hgb, ?_, r⟩
    rw [hg.block g (by simp; omega) ?_, Below.heap_alloc _ _ _ hlt, hh]
    rcases h'.2 with ⟨rfl, _⟩ | ⟨g', cap', cur', rfl, _, hh', _⟩
    · simp [Value.ownBlock]
    · simp only [Value.ownBlock, ne_eq, Option.some.injEq]
      intro e1
      subst e1
      rw [hh] at hh'
      simp at hh'
      exact hne hh'.2

theorem four_cells (w : World) (a b c d : Value) (t : TypeId) : ∀ j x, [a, b, c, d][j]? = some x → ((w.alloc (.cells #[a, b, c, d] t)).drew).cell? ((⟨w.heap.size, 0, none⟩ : Addr).add j) = some x := by
  intro j x h
  match j, h with
  | 0, h => simp at h; subst h; simp [Addr.add]
  | 1, h => simp at h; subst h; simp [Addr.add]
  | 2, h => simp at h; subst h; simp [Addr.add]
  | 3, h => simp at h; subst h; simp [Addr.add]

/-- What a call leaves of old memory: all below 'base' but block t. -/
structure Kept (base t : Nat) (w w' : World) : Prop where
  os : w'.os = w.os
  tape : w'.tape = w.tape
  output : w'.output = w.output
  size : w.heap.size ≤ w'.heap.size
  block : ∀ i, i < base → i ≠ t → w'.heap[i]? = w.heap[i]?

theorem Kept.refl (base t : Nat) (w : World) : Kept base t w w := ⟨rfl, rfl, rfl, Nat.le_refl _, fun _ _ _ => rfl⟩
theorem Kept.trans {base t : Nat} {a b c : World} (h : Kept base t a b) (k : Kept base t b c) : Kept base t a c :=
  ⟨k.os.trans h.os, k.tape.trans h.tape, k.output.trans h.output, Nat.le_trans h.size k.size, fun i hi hit => (k.block i hi hit).trans (h.block i hi hit)⟩

/-- The transport in the middle of 'Send': the two rows may have different lengths; the message handed in lies in block bx. -/
structure Mid (w W : World) (t base bx : Nat) (f : Int) (er : Value) (n k1 k2 : Nat) (tos msgs : List Value) (tv mv : Value) (m : Array Value) : Prop where
  blk : W.heap[t]? = some (.cells #[.int .i64 f, er, .int .i64 n, tv, mv] 31 (0, 0))
  own1 : W.ownsRow base 9 1 tv k1 tos
  own2 : W.ownsRow base 59 4 mv k2 msgs
  box : W.heap[bx]? = some (.cells m 59 (0, 0))
  tb : t < base
  bb : base ≤ bx
  sz : base ≤ W.heap.size
  kept : Kept base t w W

section
variable {w W w1 : World} {t base bx n k1 k2 : Nat} {f : Int} {er tv mv tv' mv' : Value} {tos msgs news : List Value} {m : Array Value}

theorem Mid.start (h : Tr w t base f er k1 tos msgs tv mv) (m : Array Value) : Mid w ((w.setCell ⟨t, 2, none⟩ (.int .i64 ((k1 + 1 : Nat) : Int))).alloc (.cells m 59 (0, 0))) t base w.heap.size f er (k1 + 1) k1 k1 tos msgs tv mv m := by
  have hlt : t < w.heap.size := (Array.getElem?_eq_some_iff.1 h.blk).1
  have hsz := h.sz
  have htb := h.tb
  have hs : (w.setCell ⟨t, 2, none⟩ (.int .i64 ((k1 + 1 : Nat) : Int))).heap.size = w.heap.size := by simp [World.setCell]
  refine ⟨?_, ?_, ?_, ?_, htb, hsz, ?_, ?_⟩
  · rw [Below.heap_alloc _ _ _ (by rw [hs]; exact hlt), heap_store h.blk]; rfl
  · exact (ownsRow_setCell_below h.own1 (a := ⟨t, 2, none⟩) htb _).alloc _
  · exact (ownsRow_setCell_below h.own2 (a := ⟨t, 2, none⟩) htb _).alloc _
  · have := (MapKept.heap_alloc (w.setCell ⟨t, 2, none⟩ (.int .i64 ((k1 + 1 : Nat) : Int))) (.cells m 59 (0, 0))).1
    rw [hs] at this
    exact this
  · simp [World.setCell]; omega
  · refine ⟨rfl, rfl, rfl, by simp [World.setCell], fun i hi hit => ?_⟩
    rw [Below.heap_alloc _ _ _ (by rw [hs]; omega), Below.heap_setCell _ _ _ _ hit]

/-- Behind the growth of a row of another element type, an old block stays. -/
theorem grown_old {e size k : Nat} {v : Value} {xs : List Value} {o : Obj} (hv : W.ownsRow base e size v k xs) (hg : (W.alloc o).grownBy w1 v.ownBlock) (i : Nat) (hi : i < base) (hs : base ≤ W.heap.size) : w1.heap[i]? = W.heap[i]? := by
  rw [hg.block i (by simp; omega) (own_block hv i hi), Below.heap_alloc _ _ _ (by omega)]

theorem grown_other {e e' size k : Nat} {v : Value} {xs : List Value} {o : Obj} {c : Array Value} (hv : W.ownsRow base e size v k xs) (hg : (W.alloc o).grownBy w1 v.ownBlock) (hb : W.heap[bx]? = some (.cells c e' (0, 0))) (hne : e ≠ e') : w1.heap[bx]? = some (.cells c e' (0, 0)) := by
  have hlt := (Array.getElem?_eq_some_iff.1 hb).1
  rw [hg.block bx (by simp; omega) ?_, Below.heap_alloc _ _ _ hlt, hb]
  rcases hv.2 with ⟨rfl, _⟩ | ⟨g, cap, cur, rfl, _, hh, _⟩
  · simp [Value.ownBlock]
  · simp only [Value.ownBlock, ne_eq, Option.some.injEq]
    intro e1
    subst e1
    rw [hb] at hh
    simp at hh
    exact hne hh.2.symm

theorem Mid.facts1 (h : Mid w W t base bx f er n k1 k2 tos msgs tv mv m) {o : Obj} (hg : (W.alloc o).grownBy w1 tv.ownBlock) : w1.cell? ⟨t, 3, none⟩ = some tv ∧ w1.frozen? ⟨t, 3, none⟩ = false := by
  have e := (grown_old h.own1 hg t h.tb h.sz).trans h.blk
  exact ⟨by simp [World.cell?, e], by simp [World.frozen?, e]⟩

theorem Mid.push1 (h : Mid w W t base bx f er n k1 k2 tos msgs tv mv m) {o : Obj} (hg : (W.alloc o).grownBy w1 tv.ownBlock) (ho : w1.ownsRow base 9 1 tv' (k1 + 1) (tos ++ news)) :
    Mid w (w1.setCell ⟨t, 3, none⟩ tv') t base bx f er n (k1 + 1) k2 (tos ++ news) msgs tv' mv m := by
  have e := (grown_old h.own1 hg t h.tb h.sz).trans h.blk
  have htb := h.tb
  have hbb := h.bb
  have hs : W.heap.size ≤ w1.heap.size := by have := hg.size; simp at this; omega
  refine ⟨by rw [heap_store e]; rfl, ownsRow_setCell_below ho (a := ⟨t, 3, none⟩) htb _, ownsRow_setCell_below (own_apart h.own2 h.own1 (by decide) hg) (a := ⟨t, 3, none⟩) htb _, ?_, htb, hbb, ?_, h.kept.trans ?_⟩
  · rw [Below.heap_setCell _ _ _ _ (by simp only; omega)]; exact grown_other h.own1 hg h.box (by decide)
  · have := h.sz; simp [World.setCell]; omega
  · refine ⟨hg.os, hg.tape, hg.output, by simp [World.setCell]; omega, fun i hi hit => ?_⟩
    rw [Below.heap_setCell _ _ _ _ hit, grown_old h.own1 hg i hi h.sz]

theorem Mid.facts2 (h : Mid w W t base bx f er n k1 k2 tos msgs tv mv m) {o : Obj} (hg : ((W.alloc o).drew).grownBy w1 mv.ownBlock) : w1.cell? ⟨t, 4, none⟩ = some mv ∧ w1.frozen? ⟨t, 4, none⟩ = false := by
  have hg' : (W.alloc o).grownBy w1 mv.ownBlock := ⟨hg.os, hg.tape, hg.output, hg.size, hg.block⟩
  have e := (grown_old h.own2 hg' t h.tb h.sz).trans h.blk
  exact ⟨by simp [World.cell?, e], by simp [World.frozen?, e]⟩

/-- Behind the second append: the transport as the call leaves it. -/
theorem Mid.push2 (h : Mid w W t base bx f er n k1 k2 tos msgs tv mv m) {o : Obj} (hg : ((W.alloc o).drew).grownBy w1 mv.ownBlock) (ho : w1.ownsRow base 59 4 mv' (k2 + 1) (msgs ++ news)) (hn : n = k1) (hk : k2 + 1 = k1) :
    Tr (w1.setCell ⟨t, 4, none⟩ mv') t base f er k1 tos (msgs ++ news) tv mv' ∧ Kept base t w (w1.setCell ⟨t, 4, none⟩ mv') := by
  have hg' : (W.alloc o).grownBy w1 mv.ownBlock := ⟨hg.os, hg.tape, hg.output, hg.size, hg.block⟩
  have e := (grown_old h.own2 hg' t h.tb h.sz).trans h.blk
  have htb := h.tb
  have hs : W.heap.size ≤ w1.heap.size := by have := hg'.size; simp at this; omega
  subst hn
  refine ⟨⟨by rw [heap_store e]; rfl, ownsRow_setCell_below (own_apart h.own1 h.own2 (by decide) hg') (a := ⟨t, 4, none⟩) htb _, ?_, htb, ?_⟩, h.kept.trans ?_⟩
  · rw [← hk]; exact ownsRow_setCell_below ho (a := ⟨t, 4, none⟩) htb _
  · have := h.sz; simp [World.setCell]; omega
  · refine ⟨hg.os, hg.tape, hg.output, by simp [World.setCell]; omega, fun i hi hit => ?_⟩
    rw [Below.heap_setCell _ _ _ _ hit, grown_old h.own2 hg' i hi h.sz]
end

/-- What 'Send' answers at its k-th call. -/
def sendRes (k : Nat) (f : Int) (er : Value) : Value := if (k : Int) = f then er else .nilIface
theorem ret_v {a b : Value} (h : a = b) : Ending.returned a = .returned b := by rw [h]

set_option maxRecDepth 100000 in
set_option maxHeartbeats 400000 in
theorem send_any (t base : Nat) (f : Int) (er : Value) (k : Nat) (tos msgs : List Value) (tv mv : Value) (s pr : ByteArray) (kd at_ : Int) (w : World) (hk : k ≤ 1024) (her : er = .nilIface ∨ ∃ tt vv, er = .iface tt vv) (h : Tr w t base f er k tos msgs tv mv) :
    Calls Ybaf.prog 28 #[.pointer (some ⟨t, 0, none⟩), .string s, .agg #[.int .u8 kd, .int .u64 at_, .string pr, .slice none 0 0]] w fun e w' =>
      e = .returned (sendRes k f er) ∧ (∃ tv' mv', Tr w' t base f er (k + 1) (tos ++ [.string s]) (msgs ++ [.int .u8 kd, .int .u64 at_, .string pr, .slice none 0 0]) tv' mv') ∧ Kept base t w w' := by
  have hlt : t < w.heap.size := (Array.getElem?_eq_some_iff.1 h.blk).1
  have c0 : w.cell? ⟨t, 0, none⟩ = some (.int .i64 f) := by simp [World.cell?, h.blk]
  have c1 : w.cell? ⟨t, 1, none⟩ = some er := by simp [World.cell?, h.blk]
  have c2 : w.cell? ⟨t, 2, none⟩ = some (.int .i64 k) := by simp [World.cell?, h.blk]
  have c3 : w.cell? ⟨t, 3, none⟩ = some tv := by simp [World.cell?, h.blk]
  have c4 : w.cell? ⟨t, 4, none⟩ = some mv := by simp [World.cell?, h.blk]
  have fz : ∀ o, w.frozen? ⟨t, o, none⟩ = false := by intro o; simp [World.frozen?, h.blk]
  obtain ⟨i9, hi9, hz9, hs9, hb9⟩ := info_parts info9
  obtain ⟨i59, hi59, hz59, hs59, hb59⟩ := info_parts info59
  have HT := hide h
  clear h
  go_enter Ybaf.func28, Ybaf.ntmps28
  go_upto_region 3 with fail
  have hM := Mid.start HT.out #[.int .u8 kd, .int .u64 at_, .string pr, .slice none 0 0]
  generalize hWa : (w.setCell { block := t, off := 2 } (Value.int IntKind.i64 (↑k + 1))).alloc (Obj.cells #[Value.int IntKind.u8 kd, Value.int IntKind.u64 at_, Value.string pr, Value.slice none 0 0] 59) = Wa
  have hWb : (w.setCell { block := t, off := 2 } (Value.int IntKind.i64 ((k + 1 : Nat) : Int))).alloc (Obj.cells #[Value.int IntKind.u8 kd, Value.int IntKind.u64 at_, Value.string pr, Value.slice none 0 0] 59) = Wa := by rw [← hWa]; rfl
  rw [hWb] at hM
  clear hWa hWb c0 c1 c2 c3 c4 fz HT
  have HM := hide hM
  have c3 : Wa.cell? ⟨t, 3, none⟩ = some tv := by simp [World.cell?, hM.blk]
  have hsz := hM.sz
  clear hM
  go_upto_region 4 with (at_builtin; refine wpList_append_one _ rfl _ _ 22 rfl base 9 i9 (.string { data := #[] }) 1 16 Ybaf.underlying22 hi9 hz9 hs9 hb9 rfl (by decide) tv k tos rfl (HM.out.own1.alloc _) ⟨Wa.heap.size, 0, none⟩ 1 [.string s] rfl rfl (cell_one_new _ _ _) (by simp [Value.oneCell']) (by unfold maxLen; omega) (by omega) (by simp; omega) ?_; intro g cp w1 hown' hgrow; obtain ⟨d3, f3⟩ := HM.out.facts1 hgrow)
  have hM2 := HM.out.push1 hgrow hown'
  generalize w1.setCell ⟨t, 3, none⟩ (Value.slice (some { block := g, off := 0 }) (k + 1) cp) = Wb at hM2
  clear d3 f3 hgrow hown' HM c3 hsz
  have HM := hide hM2
  have c4 : Wb.cell? ⟨t, 4, none⟩ = some mv := by simp [World.cell?, hM2.blk]
  have b0 : Wb.cell? ⟨w.heap.size, 0, none⟩ = some (.int .u8 kd) := by simp [World.cell?, hM2.box]
  have b1 : Wb.cell? ⟨w.heap.size, 1, none⟩ = some (.int .u64 at_) := by simp [World.cell?, hM2.box]
  have b2 : Wb.cell? ⟨w.heap.size, 2, none⟩ = some (.string pr) := by simp [World.cell?, hM2.box]
  have b3 : Wb.cell? ⟨w.heap.size, 3, none⟩ = some (.slice none 0 0) := by simp [World.cell?, hM2.box]
  have hsz := hM2.sz
  have htl : t < Wb.heap.size := (Array.getElem?_eq_some_iff.1 hM2.blk).1
  clear hM2
  go_region_law (refine step_append_one rfl (.tmp 33) (.tmp 35) 29 rfl base 59 i59 _ 4 56 Ybaf.underlying29 hi59 hz59 hs59 hb59 rfl (by decide) mv k msgs (by simp [Act.eval]) ⟨Wb.heap.size, 0, none⟩ 1 [.int .u8 kd, .int .u64 at_, .string pr, .slice none 0 0] (by simp [Act.eval]) (by exact (HM.out.own2.alloc _)) rfl (by exact four_cells _ _ _ _ _ _) (by simp [Value.oneCell']) (by unfold maxLen; omega) (by omega) (by simp; omega) ?_; intro g2 cp2 w2 hown2 hgrow2; obtain ⟨d4, f4⟩ := HM.out.facts2 hgrow2)
  all_goals
    obtain ⟨hT, hK⟩ := HM.out.push2 hgrow2 hown2 rfl rfl
    generalize w2.setCell ⟨t, 4, none⟩ (Value.slice (some { block := g2, off := 0 }) (k + 1) cp2) = Wc at hT hK
    have e0 : Wc.cell? ⟨t, 0, none⟩ = some (.int .i64 f) := by simp [World.cell?, hT.blk]
    have e1 : Wc.cell? ⟨t, 1, none⟩ = some er := by simp [World.cell?, hT.blk]
    have HT := hide hT
    have HK := hide hK
    clear d4 f4 hgrow2 hown2 HM c4 b0 b1 b2 b3 hsz htl hT hK
    by_cases hkf : (k : Int) = f
    · have hb : ((k : Int) == f) = true := by simp [hkf]
      have HKF := hide hkf
      clear hkf
      rcases her with rfl | ⟨tt, vv, rfl⟩
      all_goals
        go_wp2
        go_ret
        exact ⟨ret_v (if_pos HKF.out).symm, ⟨_, _, HT.out⟩, HK.out⟩
    · have hb : ((k : Int) == f) = false := by simp [hkf]
      have HKF := hide hkf
      clear hkf
      go_wp2
      go_ret
      exact ⟨ret_v (if_neg HKF.out).symm, ⟨_, _, HT.out⟩, HK.out⟩
end Go.Proofs.YbulkdzwFmt
