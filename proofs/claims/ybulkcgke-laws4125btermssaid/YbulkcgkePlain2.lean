import Derived.Laws.Bits64b
namespace Go.Proofs.Ybulkcgke
def termA (s nl nh : Nat) : Nat := (s + (nl + 1 + nh) - 1) / (nl + 1 + nh) * (nl + 1 + nh) + (nl + 1)

theorem termW (s z nl : Nat) (hs : s < 4611686018427387904) (hz : 1 ≤ z) (hz2 : z ≤ 511) (hnl : nl ≤ 255) :
    IntKind.u64.wrap (IntKind.u64.wrap (IntKind.u64.wrap ((IntKind.u64.wrap (IntKind.u64.wrap ((s : Int) + z) - 1)).tdiv z) * z) + ((nl : Int) + 1)) = (((s + z - 1) / z * z + (nl + 1) : Nat) : Int) := by
  simp only [IntKind.wrap_u64]
  have e1 : ((s : Int) + z) % 18446744073709551616 = ((s + z : Nat) : Int) := by omega
  rw [e1]
  have e2 : (((s + z : Nat) : Int) - 1) % 18446744073709551616 = ((s + z - 1 : Nat) : Int) := by omega
  rw [e2]
  have hd : (s + z - 1) / z ≤ s + z - 1 := Nat.div_le_self _ _
  have hm : (s + z - 1) / z * z ≤ s + z - 1 := Nat.div_mul_le_self _ _
  have e3 : ((s + z - 1 : Nat) : Int).tdiv z = (((s + z - 1) / z : Nat) : Int) := by
    rw [Int.tdiv_eq_ediv_of_nonneg (by omega)]; exact (Int.natCast_ediv _ _).symm
  rw [e3]
  generalize (s + z - 1) / z = q at *
  have e4 : ((q : Nat) : Int) % 18446744073709551616 = (q : Int) := by omega
  rw [e4, ← Int.natCast_mul]
  generalize q * z = m at *
  omega

/-- The law's own reckoning of the term. -/
theorem termL (s nl nh : Nat) (hs : s < 4611686018427387904) (hnl : nl ≤ 255) (hnh : nh ≤ 255) :
    (if s % (nl + nh + 1) = 0 then s / (nl + nh + 1) else s / (nl + nh + 1) + 1) * (nl + nh + 1) + (nl + 1) = termA s nl nh := by
  unfold termA
  rw [show nl + 1 + nh = nl + nh + 1 from by omega]
  have hz : 0 < nl + nh + 1 := by omega
  generalize nl + nh + 1 = z at *
  have hd := Nat.div_add_mod s z
  have hlt := Nat.mod_lt s hz
  have : (s + z - 1) / z = if s % z = 0 then s / z else s / z + 1 := by
    split
    · rename_i h0
      rw [h0] at hd
      have : s + z - 1 = (z - 1) + z * (s / z) := by omega
      rw [this, Nat.add_mul_div_left _ _ hz, Nat.div_eq_of_lt (by omega)]; omega
    · rename_i h0
      have : s + z - 1 = (s % z - 1) + z * (s / z + 1) := by rw [Nat.mul_add]; omega
      rw [this, Nat.add_mul_div_left _ _ hz, Nat.div_eq_of_lt (by omega)]; omega
  rw [this]
theorem termA_lt (s nl nh : Nat) (hs : s < 4611686018427387904) (hnl : nl ≤ 255) (hnh : nh ≤ 255) : termA s nl nh < 9223372036854775808 := by
  unfold termA
  have hm : (s + (nl + 1 + nh) - 1) / (nl + 1 + nh) * (nl + 1 + nh) ≤ s + (nl + 1 + nh) - 1 := Nat.div_mul_le_self _ _
  omega
end Go.Proofs.Ybulkcgke
