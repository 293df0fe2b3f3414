import Derived.Test.YbulkcgjqFmtPlainA
import Derived.Test.YbulkcgjqFmtPlainB
import Derived.Test.YbulkcgjqFmtPlainC
namespace Go.Proofs.YbulkcgjqFmt.Plain
theorem whole_all (nx ny : Nat) (hx : 1 ≤ nx ∧ nx ≤ 8) (hy : 1 ≤ ny ∧ ny ≤ 8) : whole nx ny = true := by
  obtain ⟨a, rfl⟩ : ∃ a, nx = a + 1 := ⟨nx - 1, by omega⟩
  obtain ⟨b, rfl⟩ : ∃ b, ny = b + 1 := ⟨ny - 1, by omega⟩
  rcases a with _ | _ | _ | _ | _ | _ | _ | _ | a
  · rcases b with _ | _ | _ | _ | _ | _ | _ | _ | b
    · exact w_1_1
    · exact w_1_2
    · exact w_1_3
    · exact w_1_4
    · exact w_1_5
    · exact w_1_6
    · exact w_1_7
    · exact w_1_8
    · omega
  · rcases b with _ | _ | _ | _ | _ | _ | _ | _ | b
    · exact w_2_1
    · exact w_2_2
    · exact w_2_3
    · exact w_2_4
    · exact w_2_5
    · exact w_2_6
    · exact w_2_7
    · exact w_2_8
    · omega
  · rcases b with _ | _ | _ | _ | _ | _ | _ | _ | b
    · exact w_3_1
    · exact w_3_2
    · exact w_3_3
    · exact w_3_4
    · exact w_3_5
    · exact w_3_6
    · exact w_3_7
    · exact w_3_8
    · omega
  · rcases b with _ | _ | _ | _ | _ | _ | _ | _ | b
    · exact w_4_1
    · exact w_4_2
    · exact w_4_3
    · exact w_4_4
    · exact w_4_5
    · exact w_4_6
    · exact w_4_7
    · exact w_4_8
    · omega
  · rcases b with _ | _ | _ | _ | _ | _ | _ | _ | b
    · exact w_5_1
    · exact w_5_2
    · exact w_5_3
    · exact w_5_4
    · exact w_5_5
    · exact w_5_6
    · exact w_5_7
    · exact w_5_8
    · omega
  · rcases b with _ | _ | _ | _ | _ | _ | _ | _ | b
    · exact w_6_1
    · exact w_6_2
    · exact w_6_3
    · exact w_6_4
    · exact w_6_5
    · exact w_6_6
    · exact w_6_7
    · exact w_6_8
    · omega
  · rcases b with _ | _ | _ | _ | _ | _ | _ | _ | b
    · exact w_7_1
    · exact w_7_2
    · exact w_7_3
    · exact w_7_4
    · exact w_7_5
    · exact w_7_6
    · exact w_7_7
    · exact w_7_8
    · omega
  · rcases b with _ | _ | _ | _ | _ | _ | _ | _ | b
    · exact w_8_1
    · exact w_8_2
    · exact w_8_3
    · exact w_8_4
    · exact w_8_5
    · exact w_8_6
    · exact w_8_7
    · exact w_8_8
    · omega
  · omega
end Go.Proofs.YbulkcgjqFmt.Plain
