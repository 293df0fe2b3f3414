import Derived.Test.YbulkcgioFmtKit10
namespace Go.Proofs.YbulkcgioFmt.Kit
set_option linter.unusedSimpArgs false
set_option linter.unusedVariables false
open Go.ChangeShapes Go.WideShapes Go.ChangeAt Go.RowKit

theorem bnew (a : Option Addr) (n c : Nat) (w : World) : Calls Ybaf.prog 5 #[.slice a n c] w fun e w' => e = .returned (.pointer (some ⟨w.heap.size, 0, none⟩)) ∧ w' = w.alloc (.cells #[.slice a n c, .int .i64 0, .int .i64 (-1)] 48) := by
  go_enter Ybaf.func5, Ybaf.ntmps5
  go_wp2
  go_ret
  exact ⟨rfl, rfl⟩

@[go_sem] theorem assert27 (x : Value) (w : World) : (Instr.typeAssert (.iface 27 x) 45 25 true).run Ybaf.prog w = .ok (.tuple #[.pointer none, .bool false]) w := by kernel_rfl

set_option maxHeartbeats 1000000 in
theorem bufnew (R : Nat) (w : World) : Calls Ybaf.prog 4 #[.iface 27 (.pointer (some ⟨R, 0, none⟩))] w fun e w' => e = .returned (.pointer (some ⟨w.heap.size, 0, none⟩)) ∧
    w' = (w.alloc (.cells #[.slice (some ⟨w.heap.size + 1, 0, none⟩) 4096 4096, .iface 27 (.pointer (some ⟨R, 0, none⟩)), .int .i64 0, .int .i64 0, .nilIface, .int .i64 (-1), .int .i64 (-1)] 53)).alloc (.cells (Z8 4096) 5) := by
  have hmk : ∀ w : World, (Instr.makeSlice 22 (.int .i64 4096) (.int .i64 4096)).run Ybaf.prog w = .ok (.slice (some ⟨w.heap.size, 0, none⟩) 4096 4096) (w.alloc (.cells (Z8 4096) 5)) := fun w => mk22 .i64 4096 (by omega) w
  go_enter Ybaf.func4, Ybaf.ntmps4
  go_wp2
  go_end0
  go_wp2
  go_ret
  go_wp2
end Go.Proofs.YbulkcgioFmt.Kit
