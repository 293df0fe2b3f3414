import Derived.Test.YbulkcgkeKit
import Derived.Deep.QuietTactic
import Derived.BigQuiet
import Derived.Deep.RegionWith
import Derived.Lib.QuietBelow
namespace Go.Proofs.Ybulkcgke
set_option linter.unusedSimpArgs false
set_option linter.unusedVariables false
open Go.ChangeShapes Go.WideShapes Go.ChangeAt Go.RowKit

/-- The lower peers: -nl .. -1. -/
def lows (nl : Nat) : Array Int := ((List.range nl).map fun (i : Nat) => (i : Int) - nl).toArray
theorem lows_size (nl : Nat) : (lows nl).size = nl := by simp [lows]
theorem lows_get (nl i : Nat) (h : i < nl) : (lows nl)[i]! = (i : Int) - nl := by simp [lows, h]
/-- how many of -nl .. -1 are less than q -/
theorem lows_count (nl : Nat) (q : Int) : ((lows nl).toList.countP (fun y => !decide (q ≤ y)) : Int) = if q ≤ -nl then 0 else if 0 ≤ q then (nl : Int) else q + nl := by
  have h : ∀ m : Nat, (((List.range m).map fun (i : Nat) => (i : Int) - nl).countP (fun y => !decide (q ≤ y)) : Int) = if q ≤ -nl then 0 else if (m : Int) - nl ≤ q then (m : Int) else q + nl := by
    intro m
    induction m with
    | zero => simp; omega
    | succ k ih =>
      rw [List.range_succ, List.map_append, List.countP_append]
      push_cast
      rw [ih]
      simp only [List.map_cons, List.map_nil, List.countP_cons, List.countP_nil, Nat.zero_add]
      by_cases hk : q ≤ (k : Int) - nl
      · simp [hk]; split <;> (try split) <;> (try split) <;> omega
      · simp [hk]; split <;> (try split) <;> (try split) <;> omega
  have := h nl
  simp only [lows] at this ⊢
  rw [this]
  split
  · rfl
  · have : ((nl : Int) - nl ≤ q) ↔ 0 ≤ q := by omega
    simp [this]
end Go.Proofs.Ybulkcgke
