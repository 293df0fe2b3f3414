import Derived.Test.YbulkcgjqFmtKit9
namespace Go.Proofs.YbulkcgjqFmt
set_option linter.unusedSimpArgs false
set_option linter.unusedVariables false
open Go.ChangeShapes Go.WideShapes Go.ChangeAt Go.RowKit Go.Sort

/-- A row of ints. -/
structure RN (w : World) (b : Nat) (l : List Nat) : Prop where
  cell : ∀ i, i < l.length → w.cell? ⟨b, i, none⟩ = some (.int .i64 (l.getD i 0 : Nat))
  fz : ∀ i, w.frozen? ⟨b, i, none⟩ = false
  lt : b < w.heap.size
theorem RN.kept {w w' : World} {b : Nat} {l : List Nat} (h : RN w b l) {B : Nat} (hb : Below B w w') (hB : b < B) : RN w' b l :=
  ⟨fun i hi => (hb.cell (p := ⟨b, i, none⟩) hB).trans (h.cell i hi), fun i => (hb.frozen (p := ⟨b, i, none⟩) hB).trans (h.fz i), Nat.lt_of_lt_of_le h.lt hb.size⟩
theorem RN.set {w : World} {b : Nat} {l : List Nat} (h : RN w b l) (i : Nat) (hi : i < l.length) (x : Nat) : RN (w.setCell ⟨b, i, none⟩ (.int .i64 x)) b (l.set i x) := by
  refine ⟨fun j hj => ?_, fun j => by rw [World.frozen?_setCell]; exact h.fz j, by simpa using h.lt⟩
  rw [List.length_set] at hj
  by_cases e : j = i
  · subst e
    rw [World.cell?_setCell_same _ _ _ (h.cell j hj)]
    simp [List.getD, hj]
  · rw [World.cell?_setCell_other _ _ _ _ (by simp <;> omega), h.cell j hj]
    simp [List.getD, List.getElem?_set, Ne.symm e]
theorem RN.other {w : World} {b b' i : Nat} {l : List Nat} {v : Value} (h : RN w b l) (hne : b' ≠ b) : RN (w.setCell ⟨b', i, none⟩ v) b l :=
  ⟨fun j hj => by rw [World.cell?_setCell_other _ _ _ _ (by simp [hne])]; exact h.cell j hj, fun j => by rw [World.frozen?_setCell]; exact h.fz j, by simpa using h.lt⟩
theorem RN.start (w : World) (n : Nat) : RN (w.alloc (.cells (madeCells #[.int .i64 0] n) 3)) w.heap.size (List.replicate n 0) := by
  refine ⟨fun i hi => ?_, fun i => ?_, by simp⟩
  · simp only [World.cell?]; rw [heap_alloc_new]
    rw [List.length_replicate] at hi
    have : (madeCells #[Value.int .i64 0] n)[i]? = some (.int .i64 0) := by
      rw [← Array.getElem?_toList, toList_madeCells_one, List.getElem?_replicate, if_pos hi]
    simpa [List.getD, hi] using this
  · simp only [World.frozen?]; rw [heap_alloc_new]; simp

/-- A row of entries. -/
structure RE (w : World) (b : Nat) (l : List En) : Prop where
  cell : ∀ i c, i < l.length → c < 6 → w.cell? ⟨b, i * 6 + c, none⟩ = (enc (l.getD i En.z))[c]?
  fz : ∀ i, w.frozen? ⟨b, i, none⟩ = false
  lt : b < w.heap.size
theorem RE.kept {w w' : World} {b : Nat} {l : List En} (h : RE w b l) {B : Nat} (hb : Below B w w') (hB : b < B) : RE w' b l :=
  ⟨fun i c hi hc => (hb.cell (p := ⟨b, i * 6 + c, none⟩) hB).trans (h.cell i c hi hc), fun i => (hb.frozen (p := ⟨b, i, none⟩) hB).trans (h.fz i), Nat.lt_of_lt_of_le h.lt hb.size⟩
theorem RE.other {w : World} {b b' i : Nat} {l : List En} {v : Value} (h : RE w b l) (hne : b' ≠ b) : RE (w.setCell ⟨b', i, none⟩ v) b l :=
  ⟨fun j c hj hc => by rw [World.cell?_setCell_other _ _ _ _ (by simp [hne])]; exact h.cell j c hj hc, fun j => by rw [World.frozen?_setCell]; exact h.fz j, by simpa using h.lt⟩
/-- An entry is stored: its six cells. -/
def put6 (w : World) (b i : Nat) (x : En) : World := (((((w.setCell ⟨b, i * 6, none⟩ (.int .i32 x.k0)).setCell ⟨b, i * 6 + 1, none⟩ (.int .i32 x.k1)).setCell ⟨b, i * 6 + 2, none⟩ (.int .i32 (-1))).setCell ⟨b, i * 6 + 3, none⟩ (.int .i32 (-1))).setCell ⟨b, i * 6 + 4, none⟩ (.int .i32 x.e)).setCell ⟨b, i * 6 + 5, none⟩ (.int .i32 x.f)
theorem RE.put {w : World} {b : Nat} {l : List En} (h : RE w b l) (i : Nat) (hi : i < l.length) (x : En) : RE (put6 w b i x) b (l.set i x) := by
  have ex : ∀ c, c < 6 → ∃ v, w.cell? ⟨b, i * 6 + c, none⟩ = some v := fun c hc => by
    rw [h.cell i c hi hc]
    rcases c with _ | _ | _ | _ | _ | _ | c <;> first | exact ⟨_, rfl⟩ | omega
  obtain ⟨v0, e0⟩ := ex 0 (by omega)
  obtain ⟨v1, e1⟩ := ex 1 (by omega)
  obtain ⟨v2, e2⟩ := ex 2 (by omega)
  obtain ⟨v3, e3⟩ := ex 3 (by omega)
  obtain ⟨v4, e4⟩ := ex 4 (by omega)
  obtain ⟨v5, e5⟩ := ex 5 (by omega)
  refine ⟨fun j c hj hc => ?_, fun j => by unfold put6; simp only [World.frozen?_setCell]; exact h.fz j, by unfold put6; simpa using h.lt⟩
  rw [List.length_set] at hj
  unfold put6
  by_cases e : j = i
  · subst e
    have hg : (l.set j x).getD j En.z = x := by simp [List.getD, hj]
    rw [hg]
    rcases c with _ | _ | _ | _ | _ | _ | c
    · rw [World.cell?_setCell_other _ _ _ _ (by simp), World.cell?_setCell_other _ _ _ _ (by simp), World.cell?_setCell_other _ _ _ _ (by simp), World.cell?_setCell_other _ _ _ _ (by simp), World.cell?_setCell_other _ _ _ _ (by simp)]
      exact World.cell?_setCell_same _ _ _ e0
    · rw [World.cell?_setCell_other _ _ _ _ (by simp), World.cell?_setCell_other _ _ _ _ (by simp), World.cell?_setCell_other _ _ _ _ (by simp), World.cell?_setCell_other _ _ _ _ (by simp)]
      exact World.cell?_setCell_same _ _ _ (by rw [World.cell?_setCell_other _ _ _ _ (by simp)]; exact e1)
    · rw [World.cell?_setCell_other _ _ _ _ (by simp), World.cell?_setCell_other _ _ _ _ (by simp), World.cell?_setCell_other _ _ _ _ (by simp)]
      exact World.cell?_setCell_same _ _ _ (by rw [World.cell?_setCell_other _ _ _ _ (by simp), World.cell?_setCell_other _ _ _ _ (by simp)]; exact e2)
    · rw [World.cell?_setCell_other _ _ _ _ (by simp), World.cell?_setCell_other _ _ _ _ (by simp)]
      exact World.cell?_setCell_same _ _ _ (by rw [World.cell?_setCell_other _ _ _ _ (by simp), World.cell?_setCell_other _ _ _ _ (by simp), World.cell?_setCell_other _ _ _ _ (by simp)]; exact e3)
    · rw [World.cell?_setCell_other _ _ _ _ (by simp)]
      exact World.cell?_setCell_same _ _ _ (by rw [World.cell?_setCell_other _ _ _ _ (by simp), World.cell?_setCell_other _ _ _ _ (by simp), World.cell?_setCell_other _ _ _ _ (by simp), World.cell?_setCell_other _ _ _ _ (by simp)]; exact e4)
    · exact World.cell?_setCell_same _ _ _ (by rw [World.cell?_setCell_other _ _ _ _ (by simp), World.cell?_setCell_other _ _ _ _ (by simp), World.cell?_setCell_other _ _ _ _ (by simp), World.cell?_setCell_other _ _ _ _ (by simp), World.cell?_setCell_other _ _ _ _ (by simp)]; exact e5)
    · omega
  · have hg : (l.set i x).getD j En.z = l.getD j En.z := by simp [List.getD, List.getElem?_set, Ne.symm e]
    rw [hg]
    rw [World.cell?_setCell_other _ _ _ _ (by simp <;> omega), World.cell?_setCell_other _ _ _ _ (by simp <;> omega), World.cell?_setCell_other _ _ _ _ (by simp <;> omega), World.cell?_setCell_other _ _ _ _ (by simp <;> omega), World.cell?_setCell_other _ _ _ _ (by simp <;> omega), World.cell?_setCell_other _ _ _ _ (by simp <;> omega)]
    exact h.cell j c hj hc
end Go.Proofs.YbulkcgjqFmt
