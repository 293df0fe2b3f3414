import Derived.Test.YbulkcgjqFmtPlain
import Derived.KernelRfl
namespace Go.Proofs.YbulkcgjqFmt.Plain
set_option maxHeartbeats 0 in
set_option maxRecDepth 100000 in
theorem w_6_1 : whole 6 1 = true := by kernel_rfl
set_option maxHeartbeats 0 in
set_option maxRecDepth 100000 in
theorem w_6_2 : whole 6 2 = true := by kernel_rfl
set_option maxHeartbeats 0 in
set_option maxRecDepth 100000 in
theorem w_6_3 : whole 6 3 = true := by kernel_rfl
set_option maxHeartbeats 0 in
set_option maxRecDepth 100000 in
theorem w_6_4 : whole 6 4 = true := by kernel_rfl
set_option maxHeartbeats 0 in
set_option maxRecDepth 100000 in
theorem w_6_5 : whole 6 5 = true := by kernel_rfl
set_option maxHeartbeats 0 in
set_option maxRecDepth 100000 in
theorem w_6_6 : whole 6 6 = true := by kernel_rfl
set_option maxHeartbeats 0 in
set_option maxRecDepth 100000 in
theorem w_6_7 : whole 6 7 = true := by kernel_rfl
set_option maxHeartbeats 0 in
set_option maxRecDepth 100000 in
theorem w_6_8 : whole 6 8 = true := by kernel_rfl
set_option maxHeartbeats 0 in
set_option maxRecDepth 100000 in
theorem w_7_1 : whole 7 1 = true := by kernel_rfl
set_option maxHeartbeats 0 in
set_option maxRecDepth 100000 in
theorem w_7_2 : whole 7 2 = true := by kernel_rfl
set_option maxHeartbeats 0 in
set_option maxRecDepth 100000 in
theorem w_7_3 : whole 7 3 = true := by kernel_rfl
set_option maxHeartbeats 0 in
set_option maxRecDepth 100000 in
theorem w_7_4 : whole 7 4 = true := by kernel_rfl
set_option maxHeartbeats 0 in
set_option maxRecDepth 100000 in
theorem w_7_5 : whole 7 5 = true := by kernel_rfl
set_option maxHeartbeats 0 in
set_option maxRecDepth 100000 in
theorem w_7_6 : whole 7 6 = true := by kernel_rfl
set_option maxHeartbeats 0 in
set_option maxRecDepth 100000 in
theorem w_7_7 : whole 7 7 = true := by kernel_rfl
set_option maxHeartbeats 0 in
set_option maxRecDepth 100000 in
theorem w_7_8 : whole 7 8 = true := by kernel_rfl
end Go.Proofs.YbulkcgjqFmt.Plain
