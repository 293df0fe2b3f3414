import Derived.Laws.Bits64b
namespace Go.Proofs.Ybulkcgke.Plain
set_option linter.unusedVariables false
set_option linter.unusedSimpArgs false
theorem pow_lt64 (m : Nat) (h : m < 64) : 2 ^ m < 18446744073709551616 :=
  Nat.lt_of_lt_of_le (Nat.pow_lt_pow_right (by omega) h) (by decide)
theorem cast_pow (m : Nat) : (2 ^ m : Int) = ((2 ^ m : Nat) : Int) := by rw [Int.natCast_pow]; rfl
theorem wrap_pow (m : Nat) (h : m < 64) : IntKind.u64.wrap (2 ^ m) = ((2 ^ m : Nat) : Int) := by
  rw [IntKind.wrap_u64, cast_pow]
  have := pow_lt64 m h
  generalize 2 ^ m = x at *
  omega
theorem and_bit (v i : Nat) (hv : v < 18446744073709551616) (hi : i < 64) : (bits .and .u64 (v : Int) (IntKind.u64.wrap (2 ^ i)) != 0) = v.testBit i := by
  rw [wrap_pow i hi, bits_and_u64_nat v (2 ^ i) hv (pow_lt64 i hi)]
  cases h : v.testBit i
  · have : v &&& 2 ^ i = 0 := Nat.eq_of_testBit_eq fun j => by
      rw [Nat.testBit_and, Nat.testBit_two_pow, Nat.zero_testBit]
      by_cases e : i = j
      · subst e; simp [h]
      · simp [e]
    rw [this]; rfl
  · have : v &&& 2 ^ i ≠ 0 := fun e => by
      have h2 := congrArg (fun x => x.testBit i) e
      simp [Nat.testBit_and, h] at h2
    simp; omega
theorem or_bit (v i : Nat) (hv : v < 18446744073709551616) (hi : i < 64) : bits .or .u64 (v : Int) (IntKind.u64.wrap (2 ^ i)) = ((v ||| 2 ^ i : Nat) : Int) ∧ (v ||| 2 ^ i) < 18446744073709551616 ∧ ∀ j, (v ||| 2 ^ i).testBit j = (v.testBit j || decide (i = j)) := by
  refine ⟨by rw [wrap_pow i hi, bits_or_u64_nat v (2 ^ i) hv (pow_lt64 i hi)], Nat.or_lt_two_pow (n := 64) hv (pow_lt64 i hi), fun j => by rw [Nat.testBit_or, Nat.testBit_two_pow]⟩
/-- v with bit i struck out -/
def off (v i : Nat) : Nat := (BitVec.ofNat 64 v &&& ~~~ BitVec.ofNat 64 (2 ^ i)).toNat
theorem andNot_bit (v i : Nat) (hv : v < 18446744073709551616) (hi : i < 64) : bits .andNot .u64 (v : Int) (IntKind.u64.wrap (2 ^ i)) = (off v i : Int) := by
  rw [wrap_pow i hi]
  have hx : off v i < 18446744073709551616 := (BitVec.ofNat 64 v &&& ~~~ BitVec.ofNat 64 (2 ^ i)).isLt
  show IntKind.u64.wrap ((BitVec.ofInt 64 (v : Int) &&& ~~~ BitVec.ofInt 64 ((2 ^ i : Nat) : Int)).toNat : Int) = _
  rw [BitVec.ofInt_natCast, BitVec.ofInt_natCast, IntKind.wrap_u64]
  show ((off v i : Nat) : Int) % _ = _
  omega
theorem off_lt (v i : Nat) : off v i < 18446744073709551616 := (BitVec.ofNat 64 v &&& ~~~ BitVec.ofNat 64 (2 ^ i)).isLt
theorem off_bit (v i j : Nat) (hv : v < 18446744073709551616) (hi : i < 64) (hj : j < 64) : (off v i).testBit j = (v.testBit j && !decide (i = j)) := by
  unfold off
  rw [BitVec.testBit_toNat, BitVec.getLsbD_and, BitVec.getLsbD_not, BitVec.getLsbD_ofNat, BitVec.getLsbD_ofNat, Nat.testBit_two_pow]
  simp [hj]
end Go.Proofs.Ybulkcgke.Plain
