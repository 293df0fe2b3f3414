/-
  PLAIN LAWS for LawS4122BBuilt: the packet as a list of bytes, its chain of extension headers. No Go text in sight.
-/
import Derived.Laws.Bits64b
namespace Go.Proofs.Ybulkcgio.Plain

def T (k : Int) : Int := ([0, 43, 44, 51, 60] : List Int).getD (k % 5).toNat 0
theorem T_cases (k : Int) : T k = 0 ∨ T k = 43 ∨ T k = 44 ∨ T k = 51 ∨ T k = 60 := by
  have h0 : 0 ≤ k % 5 := by omega
  have h1 : k % 5 < 5 := by omega
  obtain ⟨m, hm⟩ := Int.eq_ofNat_of_zero_le h0
  unfold T
  rw [hm, Int.toNat_natCast]
  have : m < 5 := by omega
  match m, this with
  | 0, _ => simp
  | 1, _ => simp
  | 2, _ => simp
  | 3, _ => simp
  | 4, _ => simp
theorem T_get (k : Int) : ([0, 43, 44, 51, 60] : List Int)[(k % 5).toNat]? = some (T k) := by
  have h0 : 0 ≤ k % 5 := by omega
  have h1 : k % 5 < 5 := by omega
  unfold T
  generalize hm : (k % 5).toNat = m
  have : m < 5 := by omega
  match m, this with
  | 0, _ => simp
  | 1, _ => simp
  | 2, _ => simp
  | 3, _ => simp
  | 4, _ => simp

/-- the type of the header behind i headers -/
def nx (ks : List Int) (n i : Nat) : Int := if i < n then T (ks.getD i 0) else 132
/-- octet 2 -/
def uo (ls : List Int) (m i : Nat) : Int := if i < m then ls.getD i 0 % 4 else 0
theorem uo_bd (ls : List Int) (m i : Nat) : 0 ≤ uo ls m i ∧ uo ls m i < 4 := by unfold uo; split <;> omega
def szo (t u : Int) : Nat := if t = 44 then 8 else if t = 51 then ((u + 2) * 4).toNat else ((u + 1) * 8).toNat
theorem szo_bd (t u : Int) (h0 : 0 ≤ u) (h1 : u < 4) : 8 ≤ szo t u ∧ szo t u ≤ 32 := by
  unfold szo; split
  · omega
  · split <;> omega
def hdrL (nt x1 : Int) (sz : Nat) : List Int := nt :: x1 :: List.replicate (sz - 2) 0
theorem hdrL_length (nt x1 : Int) (sz : Nat) (h : 2 ≤ sz) : (hdrL nt x1 sz).length = sz := by simp [hdrL]; omega
theorem hdrL_get (nt x1 : Int) (sz j : Nat) (h : j < sz) : (hdrL nt x1 sz)[j]? = some (if j = 0 then nt else if j = 1 then x1 else 0) := by
  unfold hdrL
  match j with
  | 0 => simp
  | 1 => simp
  | j + 2 => simp [List.getElem?_replicate]; omega

section
variable (ks : List Int) (n : Nat) (ls : List Int) (m : Nat)
def x1 (i : Nat) : Int := if nx ks n i = 44 then 0 else uo ls m i
def sz (i : Nat) : Nat := szo (nx ks n i) (uo ls m i)
def hd (i : Nat) : List Int := hdrL (nx ks n (i + 1)) (x1 ks n ls m i) (sz ks n ls m i)
def Body : Nat → List Int
  | 0 => []
  | i + 1 => Body i ++ hd ks n ls m i
def off (i : Nat) : Nat := 40 + (Body ks n ls m i).length
theorem sz_bd (i : Nat) : 8 ≤ sz ks n ls m i ∧ sz ks n ls m i ≤ 32 := szo_bd _ _ (uo_bd ls m i).1 (uo_bd ls m i).2
theorem hd_length (i : Nat) : (hd ks n ls m i).length = sz ks n ls m i := hdrL_length _ _ _ (by have := sz_bd ks n ls m i; omega)
theorem Body_length (i : Nat) : (Body ks n ls m (i + 1)).length = (Body ks n ls m i).length + sz ks n ls m i := by
  rw [Body, List.length_append, hd_length]
theorem Body_le (i : Nat) : (Body ks n ls m i).length ≤ 32 * i := by
  induction i with
  | zero => simp [Body]
  | succ i ih => rw [Body_length]; have := sz_bd ks n ls m i; omega
theorem Body_mono (i : Nat) : ∀ d, (Body ks n ls m i).length ≤ (Body ks n ls m (i + d)).length := by
  intro d
  induction d with
  | zero => simp
  | succ d ih => rw [show i + (d + 1) = (i + d) + 1 from by omega, Body_length]; omega
theorem off_zero : off ks n ls m 0 = 40 := by simp [off, Body]
theorem off_succ (i : Nat) : off ks n ls m (i + 1) = off ks n ls m i + sz ks n ls m i := by unfold off; rw [Body_length]; omega
/-- header i lies in the body of a longer chain -/
theorem Body_part (i : Nat) : ∀ d, ∃ R, Body ks n ls m (i + 1 + d) = Body ks n ls m i ++ hd ks n ls m i ++ R := by
  intro d
  induction d with
  | zero => exact ⟨[], by simp [Body]⟩
  | succ d ih =>
    obtain ⟨R, h⟩ := ih
    exact ⟨R ++ hd ks n ls m (i + 1 + d), by rw [show i + 1 + (d + 1) = (i + 1 + d) + 1 from by omega, Body, h]; simp⟩
theorem get_hd (A Z : List Int) (hA : A.length = 40) (i N : Nat) (hi : i < N) (j : Nat) (hj : j < sz ks n ls m i) :
    (A ++ Body ks n ls m N ++ Z)[off ks n ls m i + j]? = some (if j = 0 then nx ks n (i + 1) else if j = 1 then x1 ks n ls m i else 0) := by
  obtain ⟨R, hR⟩ := Body_part ks n ls m i (N - i - 1)
  rw [show i + 1 + (N - i - 1) = N from by omega] at hR
  rw [hR]
  have h2 := hdrL_get (nx ks n (i + 1)) (x1 ks n ls m i) (sz ks n ls m i) j hj
  rw [← h2]
  have hlen := hd_length ks n ls m i
  have e : A ++ (Body ks n ls m i ++ hd ks n ls m i ++ R) ++ Z = (A ++ Body ks n ls m i) ++ (hd ks n ls m i ++ (R ++ Z)) := by simp
  rw [e, List.getElem?_append_right (by simp [off]; omega), List.getElem?_append_left (by simp [off]; omega)]
  simp only [List.length_append, hA, off]
  rw [show 40 + (Body ks n ls m i).length + j - (40 + (Body ks n ls m i).length) = j from by omega]
  rfl
end

theorem x1_bd (ks : List Int) (n : Nat) (ls : List Int) (m i : Nat) : 0 ≤ x1 ks n ls m i ∧ x1 ks n ls m i < 256 := by
  unfold x1; have := uo_bd ls m i; split <;> omega
theorem nx_bd (ks : List Int) (n i : Nat) : 0 ≤ nx ks n i ∧ nx ks n i < 256 := by
  unfold nx; split
  · have := T_cases (ks.getD i 0); omega
  · omega
theorem nx_end (ks : List Int) (n : Nat) : nx ks n n = 132 := by simp [nx]
end Go.Proofs.Ybulkcgio.Plain
