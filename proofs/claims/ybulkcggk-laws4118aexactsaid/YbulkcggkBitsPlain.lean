/-
  PLAIN LAWS for LawS4118AExact: the low and the high part of a 64-bit word, bit by bit. No Go text in sight.
-/
import Derived.Laws.Bits64b
namespace Go.Proofs.Ybulkcggk.BitsPlain

theorem pow_lt64 (m : Nat) (h : m < 64) : 2 ^ m < 18446744073709551616 :=
  Nat.lt_of_lt_of_le (Nat.pow_lt_pow_right (by omega) h) (by decide)
theorem pow_pos2 (m : Nat) : 0 < 2 ^ m := Nat.pow_pos (by omega)
theorem lt_pow64 (B : Nat) (h : B < 18446744073709551616) (k : Nat) (hk : 64 ≤ k) : B < 2 ^ k :=
  Nat.lt_of_lt_of_le h (Nat.le_trans (by decide) (Nat.pow_le_pow_right (n := 2) (by omega) hk))
theorem cast_pow (m : Nat) : (2 ^ m : Int) = ((2 ^ m : Nat) : Int) := by rw [Int.natCast_pow]; rfl

/-- one bit read out: '(b >> m) & 1'. -/
theorem bit_and (B m : Nat) (hB : B < 18446744073709551616) : bits .and .u64 ((B : Int) / 2 ^ m) 1 = ((B / 2 ^ m % 2 : Nat) : Int) := by
  have h : ((B : Int) / 2 ^ m) = ((B / 2 ^ m : Nat) : Int) := by rw [cast_pow, Int.natCast_ediv]
  rw [h]
  have h2 : B / 2 ^ m < 18446744073709551616 := Nat.lt_of_le_of_lt (Nat.div_le_self _ _) hB
  have h3 := bits_and_u64_nat (B / 2 ^ m) 1 h2 (by decide)
  rw [show ((1 : Nat) : Int) = 1 from rfl] at h3
  rw [h3, Nat.and_one_is_mod]

theorem wrap_pow (m : Nat) (h : m < 64) : IntKind.u64.wrap (2 ^ m) = ((2 ^ m : Nat) : Int) := by
  rw [IntKind.wrap_u64, cast_pow]
  have := pow_lt64 m h
  generalize 2 ^ m = x at *
  omega

theorem or_pow (x m : Nat) (h : m < 64) (hx : x < 2 ^ m) : bits .or .u64 (x : Int) ((2 ^ m : Nat) : Int) = ((x + 2 ^ m : Nat) : Int) := by
  have hm := pow_lt64 m h
  rw [bits_or_u64_nat x (2 ^ m) (by omega) hm]
  congr 1
  have := Nat.two_pow_add_eq_or_of_lt hx 1
  rw [Nat.mul_one] at this
  rw [Nat.or_comm, ← this, Nat.add_comm]

/-! ### the low part -/
def low (B k m : Nat) : Nat := B % 2 ^ (min m k)
theorem low_zero (B k : Nat) : low B k 0 = 0 := by simp [low, Nat.mod_one]
theorem low_past (B k m : Nat) (h : k ≤ m) : low B k (m + 1) = low B k m := by
  unfold low; rw [Nat.min_eq_right (by omega), Nat.min_eq_right h]
theorem low_step (B k m : Nat) (h : m < k) : low B k (m + 1) = low B k m + 2 ^ m * (B / 2 ^ m % 2) := by
  unfold low; rw [Nat.min_eq_left (by omega), Nat.min_eq_left (by omega), Nat.mod_pow_succ]
theorem low_lt (B k m : Nat) (h : m < k) : low B k m < 2 ^ m := by
  unfold low; rw [Nat.min_eq_left (by omega)]; exact Nat.mod_lt _ (pow_pos2 m)
theorem low_end (B k : Nat) (hk : k ≤ 64) : low B k 64 = B % 2 ^ k := by unfold low; rw [Nat.min_eq_right hk]

/-! ### the high part -/
def high (B k m : Nat) : Nat := B % 2 ^ m / 2 ^ k
theorem high_small (B k m : Nat) (h : m ≤ k) : high B k m = 0 := by
  unfold high
  exact Nat.div_eq_of_lt (Nat.lt_of_lt_of_le (Nat.mod_lt _ (pow_pos2 m)) (Nat.pow_le_pow_right (by omega) h))
theorem high_step (B k m : Nat) (h : k ≤ m) : high B k (m + 1) = high B k m + 2 ^ (m - k) * (B / 2 ^ m % 2) := by
  unfold high
  rw [Nat.mod_pow_succ]
  have e : 2 ^ m = 2 ^ k * 2 ^ (m - k) := by rw [← Nat.pow_add]; congr 1; omega
  have e2 : 2 ^ m * (B / 2 ^ m % 2) = 2 ^ k * (2 ^ (m - k) * (B / 2 ^ m % 2)) := by rw [← Nat.mul_assoc, ← e]
  rw [e2, Nat.add_mul_div_left _ _ (pow_pos2 k)]
theorem high_lt (B k m : Nat) (h : k ≤ m) : high B k m < 2 ^ (m - k) := by
  unfold high
  refine Nat.div_lt_of_lt_mul ?_
  rw [← Nat.pow_add, show k + (m - k) = m from by omega]
  exact Nat.mod_lt _ (pow_pos2 m)
theorem high_end (B k : Nat) (hB : B < 18446744073709551616) : high B k 64 = B / 2 ^ k := by
  unfold high; rw [Nat.mod_eq_of_lt (by simpa using hB)]

/-! ### what 'take' reads -/
theorem mask (B k : Nat) (hB : B < 18446744073709551616) (hk : k ≤ 64) :
    bits .and .u64 (B : Int) (IntKind.u64.wrap (IntKind.u64.wrap (2 ^ k) - 1)) = ((B % 2 ^ k : Nat) : Int) := by
  by_cases h : k = 64
  · subst h
    have e : IntKind.u64.wrap (IntKind.u64.wrap (2 ^ 64) - 1) = ((18446744073709551615 : Nat) : Int) := by
      rw [IntKind.wrap_u64, IntKind.wrap_u64]; decide
    rw [e, bits_and_u64_nat B _ hB (by decide)]
    congr 1
    exact Nat.and_two_pow_sub_one_eq_mod B 64
  · have hk' : k < 64 := by omega
    have hp := pow_lt64 k hk'
    have hp0 := pow_pos2 k
    rw [wrap_pow k hk', IntKind.wrap_u64]
    rw [show (((2 ^ k : Nat) : Int) - 1) % 18446744073709551616 = ((2 ^ k - 1 : Nat) : Int) from by omega]
    rw [bits_and_u64_nat B _ hB (by omega)]
    congr 1
    exact Nat.and_two_pow_sub_one_eq_mod B k
theorem shr (B k : Nat) : (B : Int) / 2 ^ k = ((B / 2 ^ k : Nat) : Int) := by rw [cast_pow, Int.natCast_ediv]
/-! ### under names, so that no walk opens them -/
def lo (B k : Nat) : Nat := B % 2 ^ k
def hi (B k : Nat) : Nat := B / 2 ^ k
theorem mask' (B k : Nat) (hB : B < 18446744073709551616) (hk : k ≤ 64) :
    bits .and .u64 (B : Int) (IntKind.u64.wrap (IntKind.u64.wrap (2 ^ k) - 1)) = ((lo B k : Nat) : Int) := mask B k hB hk
theorem shr' (B k : Nat) : (B : Int) / 2 ^ k = ((hi B k : Nat) : Int) := shr B k
theorem low_end' (B k : Nat) (hk : k ≤ 64) : low B k 64 = lo B k := low_end B k hk
theorem high_end' (B k : Nat) (hB : B < 18446744073709551616) : high B k 64 = hi B k := high_end B k hB
theorem lo_lt (B k : Nat) (hB : B < 18446744073709551616) : lo B k < 18446744073709551616 := Nat.lt_of_le_of_lt (Nat.mod_le _ _) hB
theorem hi_lt (B k : Nat) (hB : B < 18446744073709551616) : hi B k < 18446744073709551616 := Nat.lt_of_le_of_lt (Nat.div_le_self _ _) hB
/-- the loop's test, in the form in which the walk meets it -/
theorem bit_yes (B m : Nat) (hB : B < 18446744073709551616) (h : B / 2 ^ m % 2 = 1) : (bits .and .u64 ((B : Int) / 2 ^ m) 1 == 1) = true := by
  rw [bit_and B m hB, h]; rfl
theorem bit_no (B m : Nat) (hB : B < 18446744073709551616) (h : ¬ B / 2 ^ m % 2 = 1) : (bits .and .u64 ((B : Int) / 2 ^ m) 1 == 1) = false := by
  rw [bit_and B m hB, show B / 2 ^ m % 2 = 0 from by omega]; rfl
theorem low_yes (B k m : Nat) (hk : m < k) (h : B / 2 ^ m % 2 = 1) (h64 : m < 64) :
    bits .or .u64 ((low B k m : Nat) : Int) (IntKind.u64.wrap (2 ^ m)) = ((low B k (m + 1) : Nat) : Int) := by
  rw [wrap_pow m h64, or_pow _ m h64 (low_lt B k m hk), low_step B k m hk, h, Nat.mul_one]
theorem low_no (B k m : Nat) (hk : m < k) (h : ¬ B / 2 ^ m % 2 = 1) : low B k (m + 1) = low B k m := by
  rw [low_step B k m hk, show B / 2 ^ m % 2 = 0 from by omega, Nat.mul_zero, Nat.add_zero]
theorem high_yes (B k m : Nat) (hk : k ≤ m) (h : B / 2 ^ m % 2 = 1) (h64 : m < 64) :
    bits .or .u64 ((high B k m : Nat) : Int) (IntKind.u64.wrap (2 ^ (m - k))) = ((high B k (m + 1) : Nat) : Int) := by
  rw [wrap_pow (m - k) (by omega), or_pow _ (m - k) (by omega) (high_lt B k m hk), high_step B k m hk, h, Nat.mul_one]
theorem high_no (B k m : Nat) (hk : k ≤ m) (h : ¬ B / 2 ^ m % 2 = 1) : high B k (m + 1) = high B k m := by
  rw [high_step B k m hk, show B / 2 ^ m % 2 = 0 from by omega, Nat.mul_zero, Nat.add_zero]
theorem high_under (B k m : Nat) (h : m < k) : high B k (m + 1) = high B k m := by
  rw [high_small B k _ (by omega), high_small B k _ (by omega)]
end Go.Proofs.Ybulkcggk.BitsPlain
