import Derived.Test.YbulkecaQ
import Derived.Laws.Bits64b
set_option linter.unusedVariables false
namespace Go.Proofs.Ybulkeca
open Go.RowKit

theorem load64_at (b o : Nat) (x : Int) (w : World) (hc : w.cell? ⟨b, o, none⟩ = some (.int .i64 x)) :
    Calls Yba.prog 25 #[.pointer (some ⟨b, o, none⟩)] w fun e w' => e = .returned (.int .i64 x) ∧ w = w' := by
  have hl := run_call_load (P := Yba.prog) Yba.func40 (by kernel_rfl) (by kernel_rfl) (by kernel_rfl) .i64 (by kernel_rfl) hc
  go_enter Yba.func25, Yba.ntmps25
  go_wp2
  go_ret
  exact ⟨rfl, rfl⟩

theorem add64_at (b o : Nat) (x y s : Int) (w : World) (hc : w.cell? ⟨b, o, none⟩ = some (.int .i64 x)) (hz : w.frozen? ⟨b, o, none⟩ = false) (hs : (Op.intArith .add .i64 x y).run Yba.prog w = .ok (.int .i64 s) w) :
    Calls Yba.prog 53 #[.pointer (some ⟨b, o, none⟩), .int .i64 y] w fun e w' => e = .returned (.int .i64 s) ∧ w' = w.setCell ⟨b, o, none⟩ (.int .i64 s) := by
  have hl := run_call_add (P := Yba.prog) Yba.func63 (by kernel_rfl) (by kernel_rfl) (by kernel_rfl) .i64 (by kernel_rfl) hc hz hs
  clear hs
  go_enter Yba.func53, Yba.ntmps53
  go_wp2
  go_ret
  exact ⟨rfl, rfl⟩

/-- The mutex's address as the race marks want it. -/
theorem conv_mutex {b o : Nat} {v : Value} {w : World} (hc : w.cell? ⟨b, o, none⟩ = some v) : (convert 142 59 (.pointer (some ⟨b, o, none⟩))).run Yba.prog w = .ok (.pointer (some ⟨b, o, none⟩)) w := by
  have hsz : (Yba.prog.info? 52).map (fun i => decide (i.size = 0)) = some false := by kernel_rfl
  obtain ⟨i, hi, hz0⟩ := Option.map_eq_some_iff.1 hsz
  have hz : i.size ≠ 0 := by simpa using hz0
  obtain ⟨e, n, hsh, hlt, _⟩ := World.shape?_of_cell? hc
  have hge : ¬ (n ≤ o) := by simp only at hlt; omega
  simp only [convert, Sem.run_bind, run_underlying Yba.underlying59, run_underlying Yba.underlying142, Result.andThen]
  refine (Sem.run_bind _ _ _ _).trans ?_
  simp only at hsh
  simp [Conv.seenAt, viewAt, cellsIn, sizeOf, typeInfo, run_underlying Yba.underlying59, run_underlying Yba.underlying142, hi, hz, hsh, hge, Result.andThen]

/-- The counters' word. -/
theorem split_at (r d : Nat) (hr : r < 4294967296) (hd : d ≤ 1048576) (w : World) :
    Calls Yba.prog 39 #[.int .i64 ((d : Int) * 4294967296 + r)] w fun e w' => e = .returned (.tuple #[.int .i64 (r : Int), .int .i64 (d : Int)]) ∧ w = w' := by
  have h1 : bits .and .i64 ((d : Int) * 4294967296 + r) 4294967295 = (r : Int) := by
    have e1 : ((d : Int) * 4294967296 + r) = ((d * 4294967296 + r : Nat) : Int) := by omega
    have hx : (d * 4294967296 + r) &&& 4294967295 = r := by
      rw [show (4294967295 : Nat) = 2 ^ 32 - 1 by rfl, Nat.and_two_pow_sub_one_eq_mod]
      omega
    have q1 : (BitVec.ofInt 64 ((d * 4294967296 + r : Nat) : Int)).toNat = d * 4294967296 + r := by
      rw [BitVec.ofInt_natCast, BitVec.toNat_ofNat]; exact Nat.mod_eq_of_lt (by omega)
    have q2 : (BitVec.ofInt 64 ((4294967295 : Nat) : Int)).toNat = 4294967295 := by
      rw [BitVec.ofInt_natCast, BitVec.toNat_ofNat]
    rw [e1]
    show IntKind.i64.wrap ((BitVec.ofInt 64 ((d * 4294967296 + r : Nat) : Int) &&& BitVec.ofInt 64 ((4294967295 : Nat) : Int)).toNat : Int) = _
    rw [BitVec.toNat_and, q1, q2, hx, IntKind.wrap_i64]
    omega
  have h2 : ((d : Int) * 4294967296 + r) / 4294967296 = (d : Int) := by omega
  go_enter Yba.func39, Yba.ntmps39
  go_wp2
  go_ret2
  exact ⟨rfl, rfl⟩

theorem cload_at (b o r d : Nat) (hr : r < 4294967296) (hd : d ≤ 1048576) (w : World) (hc : w.cell? ⟨b, o, none⟩ = some (.int .i64 ((d : Int) * 4294967296 + r))) :
    Calls Yba.prog 24 #[.pointer (some ⟨b, o, none⟩)] w fun e w' => e = .returned (.tuple #[.int .i64 (r : Int), .int .i64 (d : Int)]) ∧ w = w' := by
  have K1 := hide (load64_at b o _ w hc)
  have K2 := hide (split_at r d hr hd w)
  clear hc
  go_enter Yba.func24, Yba.ntmps24
  go_wp2_with (first
    | (go_at_call 25; refine Calls.mono K1.out ?_; rintro e w' ⟨rfl, rfl⟩)
    | (go_at_call 39; refine Calls.mono K2.out ?_; rintro e w' ⟨rfl, rfl⟩))
  go_ret2
  exact ⟨rfl, rfl⟩

theorem alive_at (b o r d : Nat) (hr : r < 4294967296) (hd : d ≤ 1048576) (w : World) (hc : w.cell? ⟨b, o, none⟩ = some (.int .i64 ((d : Int) * 4294967296 + r))) :
    Calls Yba.prog 19 #[.pointer (some ⟨b, o, none⟩)] w fun e w' => e = .returned (.int .i64 ((r : Int) + (d : Int))) ∧ w = w' := by
  have K1 := hide (cload_at b o r d hr hd w hc)
  clear hc
  go_enter Yba.func19, Yba.ntmps19
  go_wp2_with (go_at_call 24; refine Calls.mono K1.out ?_; rintro e w' ⟨rfl, rfl⟩)
  go_ret
  exact ⟨rfl, rfl⟩

theorem exit_at (b o n r d : Nat) (hr : r < 4294967296) (hd : d ≤ 1048576) (hn : n ≤ d) (w : World) (hc : w.cell? ⟨b, o, none⟩ = some (.int .i64 ((d : Int) * 4294967296 + r))) (hz : w.frozen? ⟨b, o, none⟩ = false) :
    Calls Yba.prog 37 #[.pointer (some ⟨b, o, none⟩), .int .i64 (n : Int)] w fun e w' => e = .returned (.tuple #[]) ∧ w' = w.setCell ⟨b, o, none⟩ (.int .i64 (((d - n : Nat) : Int) * 4294967296 + r)) := by
  have HS : (Op.intArith .add .i64 ((d : Int) * 4294967296 + r) ((n : Int) * -4294967296)).run Yba.prog w = .ok (.int .i64 (((d - n : Nat) : Int) * 4294967296 + r)) w := by
    simp [go_sem, Op.intArith, IntKind.wrap_i64]
    omega
  have K1 := hide (add64_at b o _ _ _ w hc hz HS)
  clear hc HS
  go_enter Yba.func37, Yba.ntmps37
  go_wp2_with (go_at_call 53; refine Calls.mono K1.out ?_; rintro e w' ⟨rfl, rfl⟩)
  go_end0
  exact ⟨rfl, rfl⟩
end Go.Proofs.Ybulkeca
