import Derived.Test.YbulkcgjqFmtPlain
import Derived.KernelRfl
namespace Go.Proofs.YbulkcgjqFmt.Plain
set_option maxHeartbeats 0 in
set_option maxRecDepth 100000 in
theorem w_1_1 : whole 1 1 = true := by kernel_rfl
set_option maxHeartbeats 0 in
set_option maxRecDepth 100000 in
theorem w_1_2 : whole 1 2 = true := by kernel_rfl
set_option maxHeartbeats 0 in
set_option maxRecDepth 100000 in
theorem w_1_3 : whole 1 3 = true := by kernel_rfl
set_option maxHeartbeats 0 in
set_option maxRecDepth 100000 in
theorem w_1_4 : whole 1 4 = true := by kernel_rfl
set_option maxHeartbeats 0 in
set_option maxRecDepth 100000 in
theorem w_1_5 : whole 1 5 = true := by kernel_rfl
set_option maxHeartbeats 0 in
set_option maxRecDepth 100000 in
theorem w_1_6 : whole 1 6 = true := by kernel_rfl
set_option maxHeartbeats 0 in
set_option maxRecDepth 100000 in
theorem w_1_7 : whole 1 7 = true := by kernel_rfl
set_option maxHeartbeats 0 in
set_option maxRecDepth 100000 in
theorem w_1_8 : whole 1 8 = true := by kernel_rfl
set_option maxHeartbeats 0 in
set_option maxRecDepth 100000 in
theorem w_2_1 : whole 2 1 = true := by kernel_rfl
set_option maxHeartbeats 0 in
set_option maxRecDepth 100000 in
theorem w_2_2 : whole 2 2 = true := by kernel_rfl
set_option maxHeartbeats 0 in
set_option maxRecDepth 100000 in
theorem w_2_3 : whole 2 3 = true := by kernel_rfl
set_option maxHeartbeats 0 in
set_option maxRecDepth 100000 in
theorem w_2_4 : whole 2 4 = true := by kernel_rfl
set_option maxHeartbeats 0 in
set_option maxRecDepth 100000 in
theorem w_2_5 : whole 2 5 = true := by kernel_rfl
set_option maxHeartbeats 0 in
set_option maxRecDepth 100000 in
theorem w_2_6 : whole 2 6 = true := by kernel_rfl
set_option maxHeartbeats 0 in
set_option maxRecDepth 100000 in
theorem w_2_7 : whole 2 7 = true := by kernel_rfl
set_option maxHeartbeats 0 in
set_option maxRecDepth 100000 in
theorem w_2_8 : whole 2 8 = true := by kernel_rfl
set_option maxHeartbeats 0 in
set_option maxRecDepth 100000 in
theorem w_3_1 : whole 3 1 = true := by kernel_rfl
set_option maxHeartbeats 0 in
set_option maxRecDepth 100000 in
theorem w_3_2 : whole 3 2 = true := by kernel_rfl
set_option maxHeartbeats 0 in
set_option maxRecDepth 100000 in
theorem w_3_3 : whole 3 3 = true := by kernel_rfl
set_option maxHeartbeats 0 in
set_option maxRecDepth 100000 in
theorem w_3_4 : whole 3 4 = true := by kernel_rfl
set_option maxHeartbeats 0 in
set_option maxRecDepth 100000 in
theorem w_3_5 : whole 3 5 = true := by kernel_rfl
set_option maxHeartbeats 0 in
set_option maxRecDepth 100000 in
theorem w_3_6 : whole 3 6 = true := by kernel_rfl
set_option maxHeartbeats 0 in
set_option maxRecDepth 100000 in
theorem w_3_7 : whole 3 7 = true := by kernel_rfl
set_option maxHeartbeats 0 in
set_option maxRecDepth 100000 in
theorem w_3_8 : whole 3 8 = true := by kernel_rfl
set_option maxHeartbeats 0 in
set_option maxRecDepth 100000 in
theorem w_4_1 : whole 4 1 = true := by kernel_rfl
set_option maxHeartbeats 0 in
set_option maxRecDepth 100000 in
theorem w_4_2 : whole 4 2 = true := by kernel_rfl
set_option maxHeartbeats 0 in
set_option maxRecDepth 100000 in
theorem w_4_3 : whole 4 3 = true := by kernel_rfl
set_option maxHeartbeats 0 in
set_option maxRecDepth 100000 in
theorem w_4_4 : whole 4 4 = true := by kernel_rfl
set_option maxHeartbeats 0 in
set_option maxRecDepth 100000 in
theorem w_4_5 : whole 4 5 = true := by kernel_rfl
set_option maxHeartbeats 0 in
set_option maxRecDepth 100000 in
theorem w_4_6 : whole 4 6 = true := by kernel_rfl
set_option maxHeartbeats 0 in
set_option maxRecDepth 100000 in
theorem w_4_7 : whole 4 7 = true := by kernel_rfl
set_option maxHeartbeats 0 in
set_option maxRecDepth 100000 in
theorem w_4_8 : whole 4 8 = true := by kernel_rfl
set_option maxHeartbeats 0 in
set_option maxRecDepth 100000 in
theorem w_5_1 : whole 5 1 = true := by kernel_rfl
set_option maxHeartbeats 0 in
set_option maxRecDepth 100000 in
theorem w_5_2 : whole 5 2 = true := by kernel_rfl
set_option maxHeartbeats 0 in
set_option maxRecDepth 100000 in
theorem w_5_3 : whole 5 3 = true := by kernel_rfl
set_option maxHeartbeats 0 in
set_option maxRecDepth 100000 in
theorem w_5_4 : whole 5 4 = true := by kernel_rfl
set_option maxHeartbeats 0 in
set_option maxRecDepth 100000 in
theorem w_5_5 : whole 5 5 = true := by kernel_rfl
set_option maxHeartbeats 0 in
set_option maxRecDepth 100000 in
theorem w_5_6 : whole 5 6 = true := by kernel_rfl
set_option maxHeartbeats 0 in
set_option maxRecDepth 100000 in
theorem w_5_7 : whole 5 7 = true := by kernel_rfl
set_option maxHeartbeats 0 in
set_option maxRecDepth 100000 in
theorem w_5_8 : whole 5 8 = true := by kernel_rfl
end Go.Proofs.YbulkcgjqFmt.Plain
