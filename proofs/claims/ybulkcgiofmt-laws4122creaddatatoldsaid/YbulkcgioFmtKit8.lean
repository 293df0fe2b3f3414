import Derived.Test.YbulkcgioFmtKit7
namespace Go.Proofs.YbulkcgioFmt.Kit
set_option linter.unusedSimpArgs false
set_option linter.unusedVariables false
open Go.ChangeShapes Go.WideShapes Go.ChangeAt Go.RowKit

set_option maxHeartbeats 1000000 in
theorem readAtLeast_zero (x : Value) (p : Option Addr) (c : Nat) (w : World) :
    Calls Ybaf.prog 15 #[.iface 25 x, .slice p 0 c, .int .i64 0] w fun e w' => e = .returned (.tuple #[.int .i64 0, .nilIface]) ∧ w' = w := by
  go_enter Ybaf.func15, Ybaf.ntmps15
  go_wp2_with fail
  refine wp_loop_rounds 1 ?_
  rw [rounds_succ]
  go_wp2_with fail
  go_ret2
  exact ⟨rfl, rfl⟩

set_option maxHeartbeats 1000000 in
theorem readFull_zero (x : Value) (p : Option Addr) (c : Nat) (w : World) :
    Calls Ybaf.prog 14 #[.iface 25 x, .slice p 0 c] w fun e w' => e = .returned (.tuple #[.int .i64 0, .nilIface]) ∧ w' = w := by
  go_enter Ybaf.func14, Ybaf.ntmps14
  go_wp2_with (go_at_call 15; refine (readAtLeast_zero _ _ _ _).mono ?_; rintro e w' ⟨rfl, rfl⟩)
  go_ret2
  exact ⟨rfl, rfl⟩

set_option maxHeartbeats 1000000 in
theorem read_zero (D : Nat) (x : Addr) (p : Option Addr) (c : Nat) (e1 : Addr) (w : World) (hD : w.cell? ⟨D, 0, none⟩ = some (.pointer (some x))) (he : w.cell? ⟨1, 0, none⟩ = some (.iface 60 (.pointer (some e1)))) :
    Calls Ybaf.prog 10 #[.pointer (some ⟨D, 0, none⟩), .slice p 0 c] w fun e w' => e = .returned .nilIface ∧ w' = w := by
  go_enter Ybaf.func10, Ybaf.ntmps10
  go_wp2_with (go_at_call 14; refine (readFull_zero _ _ _ _).mono ?_; rintro e w' ⟨rfl, rfl⟩)
  go_ret
  exact ⟨rfl, rfl⟩
end Go.Proofs.YbulkcgioFmt.Kit
