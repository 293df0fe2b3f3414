import Derived.Test.YbulkcgjqFmtKit3
import Derived.Test.YbulkcgjqFmtKit4
namespace Go.Proofs.YbulkcgjqFmt
set_option linter.unusedSimpArgs false
set_option linter.unusedVariables false
open Go.ChangeShapes Go.WideShapes Go.ChangeAt Go.RowKit Go.Sort

/-- What lies across face f of the element at column i, row j. -/
def expC (i j f nx ny : Nat) : List Value :=
  if f = 0 ∧ 0 < j then [.int .i32 (((j - 1) * nx + i : Nat) : Int), .int .i32 2, .int .u8 1, .bool false, .int .i64 0]
  else if f = 1 ∧ i + 1 < nx then [.int .i32 ((j * nx + i + 1 : Nat) : Int), .int .i32 3, .int .u8 1, .bool false, .int .i64 0]
  else if f = 2 ∧ j + 1 < ny then [.int .i32 (((j + 1) * nx + i : Nat) : Int), .int .i32 0, .int .u8 1, .bool false, .int .i64 0]
  else if f = 3 ∧ 0 < i then [.int .i32 ((j * nx + i - 1 : Nat) : Int), .int .i32 1, .int .u8 1, .bool false, .int .i64 0]
  else [.int .i32 (-1), .int .i32 (-1), .int .u8 0, .bool false, .int .i64 0]

set_option maxRecDepth 10000 in
set_option maxHeartbeats 1000000 in
theorem exp_calls (i j f nx ny : Nat) (w : World) (hi : i < nx) (hj : j < ny) (hnx : nx ≤ 8) (hny : ny ≤ 8) (hf : f < 4) :
    Calls Ybaf.prog 11 #[.int .i64 i, .int .i64 j, .int .i64 f, .int .i64 nx, .int .i64 ny] w fun e w' => e = .returned (.agg (expC i j f nx ny).toArray) ∧ Below w.heap.size w w' := by
  rcases f with _ | _ | _ | _ | f
  · by_cases h : 0 < j
    · have h1 : decide ((0 : Int) < j) = true := by simp; omega
      obtain ⟨p, hp⟩ : ∃ p, p = (j - 1) * nx := ⟨_, rfl⟩
      have hp1 : ((j : Int) - 1) * (nx : Int) = (p : Int) := by rw [hp]; push_cast; rw [Int.natCast_sub h]; rfl
      have hp2 : p ≤ 56 := by rw [hp]; have : (j - 1) * nx ≤ 7 * 8 := Nat.mul_le_mul (by omega) (by omega); omega
      have HP := hide' hp
      clear hp
      go_enter Ybaf.func11, Ybaf.ntmps11
      go_wp2_with fail
      have hres : Ybaf.f11.results = #[.cell 10 33] := rfl
      refine bodyPost_ret (v := .agg #[.int .i32 ((p : Int) + i), .int .i32 2, .int .u8 1, .bool false, .int .i64 0]) ?_ rfl ⟨?_, Below.alloc (Below.alloc (Below.refl _ _) (Nat.le_refl _) _) (by simp) _⟩
      · simp only [results, hres]
        go_simp
      · rw [show expC i j 0 nx ny = [.int .i32 (((j - 1) * nx + i : Nat) : Int), .int .i32 2, .int .u8 1, .bool false, .int .i64 0] from by simp [expC, h], ← HP.out]; simp
    · obtain rfl : j = 0 := by omega
      go_enter Ybaf.func11, Ybaf.ntmps11
      go_wp2_with fail
      have hres : Ybaf.f11.results = #[.cell 10 33] := rfl
      refine bodyPost_ret (v := .agg #[.int .i32 (-1), .int .i32 (-1), .int .u8 0, .bool false, .int .i64 0]) ?_ rfl ⟨?_, Below.alloc (Below.alloc (Below.refl _ _) (Nat.le_refl _) _) (by simp) _⟩
      · simp only [results, hres]
        go_simp
      · rw [show expC i 0 0 nx ny = [.int .i32 (-1), .int .i32 (-1), .int .u8 0, .bool false, .int .i64 0] from by simp [expC]]
  · by_cases h : i + 1 < nx
    · have h1 : decide ((i : Int) < (nx : Int) - 1) = true := by simp; omega
      have h2 : (i : Int) < (nx : Int) - 1 := by omega
      obtain ⟨p, hp⟩ : ∃ p, p = j * nx := ⟨_, rfl⟩
      have hp1 : (j : Int) * (nx : Int) = (p : Int) := by rw [hp]; push_cast; rfl
      have hp2 : p ≤ 56 := by rw [hp]; have : j * nx ≤ 7 * 8 := Nat.mul_le_mul (by omega) (by omega); omega
      have HP := hide' hp
      clear hp
      go_enter Ybaf.func11, Ybaf.ntmps11
      go_wp2_with fail
      have hres : Ybaf.f11.results = #[.cell 10 33] := rfl
      refine bodyPost_ret (v := .agg #[.int .i32 ((p : Int) + i + 1), .int .i32 3, .int .u8 1, .bool false, .int .i64 0]) ?_ rfl ⟨?_, Below.alloc (Below.alloc (Below.refl _ _) (Nat.le_refl _) _) (by simp) _⟩
      · simp only [results, hres]
        go_simp
      · rw [show expC i j (0 + 1) nx ny = [.int .i32 ((j * nx + i + 1 : Nat) : Int), .int .i32 3, .int .u8 1, .bool false, .int .i64 0] from by simp [expC, h], ← HP.out]; simp
    · have h1 : decide ((i : Int) < (nx : Int) - 1) = false := by simp; omega
      have h2 : ¬ ((i : Int) < (nx : Int) - 1) := by omega
      go_enter Ybaf.func11, Ybaf.ntmps11
      go_wp2_with fail
      have hres : Ybaf.f11.results = #[.cell 10 33] := rfl
      refine bodyPost_ret (v := .agg #[.int .i32 (-1), .int .i32 (-1), .int .u8 0, .bool false, .int .i64 0]) ?_ rfl ⟨?_, Below.alloc (Below.alloc (Below.refl _ _) (Nat.le_refl _) _) (by simp) _⟩
      · simp only [results, hres]
        go_simp
      · rw [show expC i j (0 + 1) nx ny = [.int .i32 (-1), .int .i32 (-1), .int .u8 0, .bool false, .int .i64 0] from by simp [expC, h]]
  · by_cases h : j + 1 < ny
    · have h1 : decide ((j : Int) < (ny : Int) - 1) = true := by simp; omega
      have h2 : (j : Int) < (ny : Int) - 1 := by omega
      obtain ⟨p, hp⟩ : ∃ p, p = (j + 1) * nx := ⟨_, rfl⟩
      have hp1 : ((j : Int) + 1) * (nx : Int) = (p : Int) := by rw [hp]; push_cast; rfl
      have hp2 : p ≤ 64 := by rw [hp]; have : (j + 1) * nx ≤ 8 * 8 := Nat.mul_le_mul (by omega) (by omega); omega
      have HP := hide' hp
      clear hp
      go_enter Ybaf.func11, Ybaf.ntmps11
      go_wp2_with fail
      have hres : Ybaf.f11.results = #[.cell 10 33] := rfl
      refine bodyPost_ret (v := .agg #[.int .i32 ((p : Int) + i), .int .i32 0, .int .u8 1, .bool false, .int .i64 0]) ?_ rfl ⟨?_, Below.alloc (Below.alloc (Below.refl _ _) (Nat.le_refl _) _) (by simp) _⟩
      · simp only [results, hres]
        go_simp
      · rw [show expC i j (0 + 1 + 1) nx ny = [.int .i32 (((j + 1) * nx + i : Nat) : Int), .int .i32 0, .int .u8 1, .bool false, .int .i64 0] from by simp [expC, h], ← HP.out]; simp
    · have h1 : decide ((j : Int) < (ny : Int) - 1) = false := by simp; omega
      have h2 : ¬ ((j : Int) < (ny : Int) - 1) := by omega
      go_enter Ybaf.func11, Ybaf.ntmps11
      go_wp2_with fail
      have hres : Ybaf.f11.results = #[.cell 10 33] := rfl
      refine bodyPost_ret (v := .agg #[.int .i32 (-1), .int .i32 (-1), .int .u8 0, .bool false, .int .i64 0]) ?_ rfl ⟨?_, Below.alloc (Below.alloc (Below.refl _ _) (Nat.le_refl _) _) (by simp) _⟩
      · simp only [results, hres]
        go_simp
      · rw [show expC i j (0 + 1 + 1) nx ny = [.int .i32 (-1), .int .i32 (-1), .int .u8 0, .bool false, .int .i64 0] from by simp [expC, h]]
  · by_cases h : 0 < i
    · have h1 : decide ((0 : Int) < i) = true := by simp; omega
      obtain ⟨p, hp⟩ : ∃ p, p = j * nx := ⟨_, rfl⟩
      have hp1 : (j : Int) * (nx : Int) = (p : Int) := by rw [hp]; push_cast; rfl
      have hp2 : p ≤ 56 := by rw [hp]; have : j * nx ≤ 7 * 8 := Nat.mul_le_mul (by omega) (by omega); omega
      have HP := hide' hp
      clear hp
      go_enter Ybaf.func11, Ybaf.ntmps11
      go_wp2_with fail
      have hres : Ybaf.f11.results = #[.cell 10 33] := rfl
      refine bodyPost_ret (v := .agg #[.int .i32 ((p : Int) + i - 1), .int .i32 1, .int .u8 1, .bool false, .int .i64 0]) ?_ rfl ⟨?_, Below.alloc (Below.alloc (Below.refl _ _) (Nat.le_refl _) _) (by simp) _⟩
      · simp only [results, hres]
        go_simp
      · rw [show expC i j (0 + 1 + 1 + 1) nx ny = [.int .i32 ((j * nx + i - 1 : Nat) : Int), .int .i32 1, .int .u8 1, .bool false, .int .i64 0] from by simp [expC, h], ← HP.out]; simp; omega
    · obtain rfl : i = 0 := by omega
      go_enter Ybaf.func11, Ybaf.ntmps11
      go_wp2_with fail
      have hres : Ybaf.f11.results = #[.cell 10 33] := rfl
      refine bodyPost_ret (v := .agg #[.int .i32 (-1), .int .i32 (-1), .int .u8 0, .bool false, .int .i64 0]) ?_ rfl ⟨?_, Below.alloc (Below.alloc (Below.refl _ _) (Nat.le_refl _) _) (by simp) _⟩
      · simp only [results, hres]
        go_simp
      · rw [show expC 0 j (0 + 1 + 1 + 1) nx ny = [.int .i32 (-1), .int .i32 (-1), .int .u8 0, .bool false, .int .i64 0] from by simp [expC]]
  · omega
end Go.Proofs.YbulkcgjqFmt
