import Derived.Test.YbulkecaCnt
set_option linter.unusedVariables false
namespace Go.Proofs.Ybulkeca
open Go.RowKit

theorem idle_at (p r d : Nat) (hr : r < 4294967296) (hd : d ≤ 1048576) (w : World) (hc : w.cell? ⟨p, 76, none⟩ = some (.int .i64 ((d : Int) * 4294967296 + r))) :
    Calls Yba.prog 8 #[.pointer (some ⟨p, 0, none⟩)] w fun e w' => e = .returned (.int .i64 (d : Int)) ∧ w = w' := by
  have K1 := hide (cload_at p 76 r d hr hd w hc)
  clear hc
  go_enter Yba.func8, Yba.ntmps8
  go_wp2_with (go_at_call 24; refine Calls.mono K1.out ?_; rintro e w' ⟨rfl, rfl⟩)
  go_ret
  exact ⟨rfl, rfl⟩

theorem running_at (p r d : Nat) (hr : r < 4294967296) (hd : d ≤ 1048576) (w : World) (hc : w.cell? ⟨p, 76, none⟩ = some (.int .i64 ((d : Int) * 4294967296 + r))) :
    Calls Yba.prog 9 #[.pointer (some ⟨p, 0, none⟩)] w fun e w' => e = .returned (.int .i64 (r : Int)) ∧ w = w' := by
  have K1 := hide (cload_at p 76 r d hr hd w hc)
  clear hc
  go_enter Yba.func9, Yba.ntmps9
  go_wp2_with (go_at_call 24; refine Calls.mono K1.out ?_; rintro e w' ⟨rfl, rfl⟩)
  go_ret
  exact ⟨rfl, rfl⟩

theorem cap_at (p : Nat) (c : Int) (w : World) (hc : w.cell? ⟨p, 0, none⟩ = some (.int .i64 c)) :
    Calls Yba.prog 10 #[.pointer (some ⟨p, 0, none⟩)] w fun e w' => e = .returned (.int .i64 c) ∧ w = w' := by
  have K1 := hide (load64_at p 0 c w hc)
  clear hc
  go_enter Yba.func10, Yba.ntmps10
  go_wp2_with (go_at_call 25; refine Calls.mono K1.out ?_; rintro e w' ⟨rfl, rfl⟩)
  go_ret
  exact ⟨rfl, rfl⟩

theorem mark48 (w : World) : (callFunc 48 #[]).run Yba.prog w = .ok (.value (.tuple #[])) w := by kernel_rfl
theorem mark50 (w : World) : (callFunc 50 #[]).run Yba.prog w = .ok (.value (.tuple #[])) w := by kernel_rfl
theorem mark51 (a : Addr) (w : World) : (callFunc 51 #[.pointer (some a)]).run Yba.prog w = .ok (.value (.tuple #[])) w := by kernel_rfl
theorem mark54 (a : Addr) (w : World) : (callFunc 54 #[.pointer (some a)]).run Yba.prog w = .ok (.value (.tuple #[])) w := by kernel_rfl

set_option maxRecDepth 100000 in
theorem ilock_at (b o : Nat) (w : World) (hc : w.cell? ⟨b, o, none⟩ = some (.int .i32 0)) (hz : w.frozen? ⟨b, o, none⟩ = false) :
    Calls Yba.prog 36 #[.pointer (some ⟨b, o, none⟩)] w fun e w' => e = .returned (.tuple #[]) ∧ w' = w.setCell ⟨b, o, none⟩ (.int .i32 1) := by
  have h1 := run_call_cas_hit (P := Yba.prog) Yba.func49 (by kernel_rfl) (by kernel_rfl) (by kernel_rfl) .i32 (by kernel_rfl) (y := 1) hc hz
  have h2 := conv_mutex (World.cell?_setCell_same w ⟨b, o, none⟩ (.int .i32 1) hc)
  have h3 := mark48
  have h4 := mark50
  have h5 := mark51
  clear hc hz
  go_enter Yba.func36, Yba.ntmps36
  go_wp2
  refine bodyPost_ret (results_none rfl _ _ _) rfl ?_
  exact ⟨rfl, rfl⟩

theorem lock_at (b o : Nat) (w : World) (hc : w.cell? ⟨b, o, none⟩ = some (.int .i32 0)) (hz : w.frozen? ⟨b, o, none⟩ = false) :
    Calls Yba.prog 20 #[.pointer (some ⟨b, o, none⟩)] w fun e w' => e = .returned (.tuple #[]) ∧ w' = w.setCell ⟨b, o, none⟩ (.int .i32 1) := by
  have K1 := hide (ilock_at b o w hc hz)
  clear hc hz
  go_enter Yba.func20, Yba.ntmps20
  go_wp2_with (go_at_call 36; refine Calls.mono K1.out ?_; rintro e w' ⟨rfl, rfl⟩)
  go_end0
  exact ⟨rfl, rfl⟩

set_option maxRecDepth 100000 in
theorem iunlock_at (b o : Nat) (w : World) (hc : w.cell? ⟨b, o, none⟩ = some (.int .i32 1)) (hz : w.frozen? ⟨b, o, none⟩ = false) :
    Calls Yba.prog 38 #[.pointer (some ⟨b, o, none⟩)] w fun e w' => e = .returned (.tuple #[]) ∧ w' = w.setCell ⟨b, o, none⟩ (.int .i32 0) := by
  have hs : (Op.intArith .add .i32 1 (-1)).run Yba.prog w = .ok (.int .i32 0) w := by kernel_rfl
  have h1 := run_call_add (P := Yba.prog) Yba.func55 (by kernel_rfl) (by kernel_rfl) (by kernel_rfl) .i32 (by kernel_rfl) hc hz hs
  have h2 := conv_mutex hc
  have h3 := mark48
  have h4 := mark50
  have h5 := mark54
  clear hz hs
  go_enter Yba.func38, Yba.ntmps38
  go_wp2
  go_end0
  exact ⟨rfl, rfl⟩

theorem unlock_at (b o : Nat) (w : World) (hc : w.cell? ⟨b, o, none⟩ = some (.int .i32 1)) (hz : w.frozen? ⟨b, o, none⟩ = false) :
    Calls Yba.prog 22 #[.pointer (some ⟨b, o, none⟩)] w fun e w' => e = .returned (.tuple #[]) ∧ w' = w.setCell ⟨b, o, none⟩ (.int .i32 0) := by
  have K1 := hide (iunlock_at b o w hc hz)
  clear hc hz
  go_enter Yba.func22, Yba.ntmps22
  go_wp2_with (go_at_call 38; refine Calls.mono K1.out ?_; rintro e w' ⟨rfl, rfl⟩)
  go_end0
  exact ⟨rfl, rfl⟩
end Go.Proofs.Ybulkeca
