import Derived.Test.YbulkcgjqFmtPlain
import Derived.KernelRfl
namespace Go.Proofs.YbulkcgjqFmt.Plain
set_option maxHeartbeats 0 in
set_option maxRecDepth 100000 in
theorem w_8_1 : whole 8 1 = true := by kernel_rfl
set_option maxHeartbeats 0 in
set_option maxRecDepth 100000 in
theorem w_8_2 : whole 8 2 = true := by kernel_rfl
set_option maxHeartbeats 0 in
set_option maxRecDepth 100000 in
theorem w_8_3 : whole 8 3 = true := by kernel_rfl
set_option maxHeartbeats 0 in
set_option maxRecDepth 100000 in
theorem w_8_4 : whole 8 4 = true := by kernel_rfl
set_option maxHeartbeats 0 in
set_option maxRecDepth 100000 in
theorem w_8_5 : whole 8 5 = true := by kernel_rfl
set_option maxHeartbeats 0 in
set_option maxRecDepth 100000 in
theorem w_8_6 : whole 8 6 = true := by kernel_rfl
set_option maxHeartbeats 0 in
set_option maxRecDepth 100000 in
theorem w_8_7 : whole 8 7 = true := by kernel_rfl
set_option maxHeartbeats 0 in
set_option maxRecDepth 100000 in
theorem w_8_8 : whole 8 8 = true := by kernel_rfl
end Go.Proofs.YbulkcgjqFmt.Plain
