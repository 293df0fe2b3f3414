import Derived.Test.YbulkcgjqFmtKit5
namespace Go.Proofs.YbulkcgjqFmt
set_option linter.unusedSimpArgs false
set_option linter.unusedVariables false
open Go.ChangeShapes Go.WideShapes Go.ChangeAt Go.RowKit Go.Sort

set_option maxRecDepth 10000 in
set_option maxHeartbeats 400000 in
/-- Connectivity.Faces. -/
theorem facesOf_calls (Cb fb sb nE S fc e : Nat) (w : World) (hS : S = 4 * nE) (hE : nE ≤ 64) (he : e < nE) (c0 : w.cell? ⟨Cb, 0, none⟩ = some (.slice (some ⟨fb, 0, none⟩) (nE + 1) fc)) (c1 : w.cell? ⟨Cb, 1, none⟩ = some (.slice (some ⟨sb, 0, none⟩) S S))
    (f0 : w.cell? ⟨fb, e, none⟩ = some (.int .i32 ((4 * e : Nat) : Int))) (f1 : w.cell? ⟨fb, e + 1, none⟩ = some (.int .i32 ((4 * (e + 1) : Nat) : Int))) :
    Calls Ybaf.prog 10 #[.pointer (some ⟨Cb, 0, none⟩), .int .i64 e] w fun r w' => r = .returned (.slice (some ⟨sb, 4 * e * 5, none⟩) 4 (S - 4 * e)) ∧ Below w.heap.size w w' := by
  obtain ⟨p, hp⟩ : ∃ p, p = 4 * e := ⟨_, rfl⟩
  have hp2 : 4 * (e + 1) = p + 4 := by omega
  rw [← hp] at f0
  rw [hp2] at f1
  have h1 : p + 4 ≤ S := by omega
  have h2 : e < nE + 1 := by omega
  have h3 : e + 1 < nE + 1 := by omega
  have h4 : ¬ (S = p) := by omega
  have h5 : p ≤ 300 := by omega
  have h6 : p + 4 - p = 4 := by omega
  have HP := hide' hp
  rw [← hp]
  clear hp hS hp2
  go_enter Ybaf.func10, Ybaf.ntmps10
  go_wp2_with fail
  go_quiet (fail)
  go_wp2_with fail
  go_ret
  exact ⟨by simp [h4, h6], rfl, rfl, rfl, Nat.le_refl _, fun _ _ => rfl⟩
end Go.Proofs.YbulkcgjqFmt
