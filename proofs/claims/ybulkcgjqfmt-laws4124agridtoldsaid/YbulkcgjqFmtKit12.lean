import Derived.Test.YbulkcgjqFmtKit2
import Derived.Sort.LotA
namespace Go.Proofs.YbulkcgjqFmt
set_option linter.unusedSimpArgs false
set_option linter.unusedVariables false
open Go.Shelf Go.RowKit Go.Lib Go.Sort

theorem cmpL_iff (x y : En) : Plain.cmpL x y = true ↔ (x.k0 < y.k0 ∨ (x.k0 = y.k0 ∧ (x.k1 < y.k1 ∨ (x.k1 = y.k1 ∧ (x.e < y.e ∨ (x.e = y.e ∧ x.f < y.f)))))) := by
  simp [Plain.cmpL]
theorem cmpI_neg (a b : Nat) : (cmpI (a : Int) b < 0) ↔ a < b := by
  unfold cmpI; split
  · simp; omega
  · split <;> simp <;> omega
theorem cmpI_zero (a b : Nat) : (cmpI (a : Int) b = 0) ↔ a = b := by
  unfold cmpI; split
  · simp; omega
  · split
    · simp; omega
    · simp; omega
theorem lt_cmpL (x y : En) : ltOf cf x y = Plain.cmpL x y := by
  rw [Bool.eq_iff_iff, cmpL_iff]
  unfold ltOf cf
  have a0 := cmpI_zero x.k0 y.k0
  have a1 := cmpI_zero x.k1 y.k1
  have a2 := cmpI_zero x.e y.e
  have b0 := cmpI_neg x.k0 y.k0
  have b1 := cmpI_neg x.k1 y.k1
  have b2 := cmpI_neg x.e y.e
  have b3 := cmpI_neg x.f y.f
  simp only [decide_eq_true_eq]
  split
  · rename_i h; rw [b0]; have : ¬ x.k0 = y.k0 := fun e => h (a0.2 e); omega
  · rename_i h
    have h0 : x.k0 = y.k0 := a0.1 (by simpa using h)
    split
    · rename_i h1; rw [b1]; have : ¬ x.k1 = y.k1 := fun e => h1 (a1.2 e); omega
    · rename_i h1
      have h2 : x.k1 = y.k1 := a1.1 (by simpa using h1)
      split
      · rename_i h3; rw [b2]; have : ¬ x.e = y.e := fun e => h3 (a2.2 e); omega
      · rename_i h3
        have h4 : x.e = y.e := a2.1 (by simpa using h3)
        rw [b3]; omega
theorem swoL : SWO (ltOf cf) := by
  refine ⟨fun x => ?_, fun x y z h1 h2 => ?_, fun x y z h1 h2 => ?_⟩
  · rw [lt_cmpL, Bool.eq_false_iff]; intro h; rw [cmpL_iff] at h; omega
  · rw [lt_cmpL, cmpL_iff] at *; omega
  · rw [lt_cmpL, Bool.eq_false_iff] at *
    intro h; apply h1; rw [cmpL_iff] at *
    have h2' : ¬ (y.k0 < z.k0 ∨ (y.k0 = z.k0 ∧ (y.k1 < z.k1 ∨ (y.k1 = z.k1 ∧ (y.e < z.e ∨ (y.e = z.e ∧ y.f < z.f)))))) := fun h' => h2 ((cmpL_iff y z).2 h')
    omega
theorem antiL (x y : En) (h1 : ltOf cf x y = false) (h2 : ltOf cf y x = false) : x = y := by
  rw [lt_cmpL, Bool.eq_false_iff] at *
  have h1' : ¬ (x.k0 < y.k0 ∨ (x.k0 = y.k0 ∧ (x.k1 < y.k1 ∨ (x.k1 = y.k1 ∧ (x.e < y.e ∨ (x.e = y.e ∧ x.f < y.f)))))) := fun h' => h1 ((cmpL_iff x y).2 h')
  have h2' : ¬ (y.k0 < x.k0 ∨ (y.k0 = x.k0 ∧ (y.k1 < x.k1 ∨ (y.k1 = x.k1 ∧ (y.e < x.e ∨ (y.e = x.e ∧ y.f < x.f)))))) := fun h' => h2 ((cmpL_iff y x).2 h')
  cases x; cases y; simp only [En.mk.injEq] at *; omega

theorem ins_perm (x : En) : ∀ l, (Plain.ins x l).Perm (x :: l)
  | [] => .refl _
  | y :: l => by
    rw [Plain.ins]; split
    · exact ((ins_perm x l).cons y).trans (List.Perm.swap x y l)
    · exact .refl _
theorem isort_perm : ∀ l, (Plain.isort l).Perm l
  | [] => .refl _
  | x :: l => (ins_perm x _).trans ((isort_perm l).cons x)
theorem ins_sorted (x : En) : ∀ l, l.Pairwise (fun a b => Plain.cmpL b a = false) → (Plain.ins x l).Pairwise (fun a b => Plain.cmpL b a = false)
  | [], _ => by simp [Plain.ins]
  | y :: l, h => by
    rw [List.pairwise_cons] at h
    rw [Plain.ins]; split
    · rename_i hyx
      rw [List.pairwise_cons]
      refine ⟨fun z hz => ?_, ins_sorted x l h.2⟩
      rcases List.mem_cons.1 ((ins_perm x l).mem_iff.1 hz) with rfl | hz
      · rw [Bool.eq_false_iff]; intro h'; rw [cmpL_iff] at *; omega
      · exact h.1 z hz
    · rename_i hyx
      rw [List.pairwise_cons]
      refine ⟨fun z hz => ?_, List.pairwise_cons.2 h⟩
      rcases List.mem_cons.1 hz with rfl | hz
      · simpa using hyx
      · have h1 := h.1 z hz
        have := swoL.ntrans z y x (by rw [lt_cmpL]; exact h1) (by rw [lt_cmpL]; simpa using hyx)
        rwa [lt_cmpL] at this
theorem isort_sorted : ∀ l, (Plain.isort l).Pairwise (fun a b => Plain.cmpL b a = false)
  | [] => .nil
  | x :: l => ins_sorted x _ (isort_sorted l)
theorem isort_len (l : List En) : (Plain.isort l).length = l.length := (isort_perm l).length_eq

/-- The shelf's insertion sort is the plain one. -/
abbrev En.inh : Inhabited En := ⟨En.z⟩
theorem isort_eq [hI : Inhabited En] (d : Array En) : (Sort.insertionSort (ltOf cf) d 0 d.size).toList = Plain.isort d.toList := by
  have h1 := insertionSort_holds (lt := ltOf cf) swoL d 0 d.size (Nat.zero_le _) (Nat.le_refl _)
  have e1 := sorted_unique_holds (lt := ltOf cf) swoL antiL d _ h1.1 h1.2
  have hs : (Plain.isort d.toList).toArray.size = d.size := by simp [isort_len]
  have hp : PermIn 0 d.size d (Plain.isort d.toList).toArray := by
    refine ⟨hs, fun i hi => ?_, ?_⟩
    · have : d.size ≤ i := by omega
      simp [this, isort_len]
    · have e : ((Plain.isort d.toList).toArray.extract 0 d.size).toList = Plain.isort d.toList := by
        simp [isort_len, List.take_of_length_le]
      have e' : (d.extract 0 d.size).toList = d.toList := by simp
      rw [e, e']; exact isort_perm _
  have hso : SortedIn (ltOf cf) 0 d.size (Plain.isort d.toList).toArray := fun i j _ hij hj => by
    rw [lt_cmpL]
    have hl := isort_len d.toList
    have := List.pairwise_iff_getElem.1 (isort_sorted d.toList) i j (by simp at hl; omega) (by simp at hl; omega) hij
    simpa [getElem!_pos, show i < (Plain.isort d.toList).length from by simp at hl; omega, show j < (Plain.isort d.toList).length from by simp at hl; omega] using this
  have e2 := sorted_unique_holds (lt := ltOf cf) swoL antiL d _ hp hso
  rw [e1]
  exact e2.symm
end Go.Proofs.YbulkcgjqFmt
