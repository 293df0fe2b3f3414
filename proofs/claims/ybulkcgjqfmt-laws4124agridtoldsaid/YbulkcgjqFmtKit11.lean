import Derived.Test.YbulkcgjqFmtKit10
namespace Go.Proofs.YbulkcgjqFmt
set_option linter.unusedSimpArgs false
set_option linter.unusedVariables false
open Go.ChangeShapes Go.WideShapes Go.ChangeAt Go.RowKit Go.Sort
namespace Plain
theorem cnt_app (a b : List En) : ∀ s, cnt s (a ++ b) = (cnt s a).bind fun n => cnt n b := by
  induction a with
  | nil => intro s; rfl
  | cons x a ih =>
    intro s
    simp only [List.cons_append, cnt]
    cases h : cntS s x with
    | none => rfl
    | some n => simp [ih]
theorem cnt_at {s c l : List Nat} {U : List En} {i : Nat} {x : En} (h : cnt s U = some c) (hx : U[i]? = some x) (hl : cnt s (U.take i) = some l) : ∃ l', cntS l x = some l' ∧ cnt s (U.take (i + 1)) = some l' := by
  have hi : i < U.length := by
    rcases Nat.lt_or_ge i U.length with h | h
    · exact h
    · rw [List.getElem?_eq_none h] at hx; cases hx
  have hxx : U[i] = x := by rw [List.getElem?_eq_getElem hi] at hx; exact Option.some.inj hx
  have e1 : U = U.take i ++ x :: U.drop (i + 1) := by
    rw [← hxx, ← List.drop_eq_getElem_cons hi, List.take_append_drop]
  have e2 : U.take (i + 1) = U.take i ++ [x] := by rw [List.take_add_one, hx]; rfl
  rw [e1, cnt_app, hl] at h
  simp only [Option.bind_some, cnt] at h
  cases hs : cntS l x with
  | none => rw [hs] at h; cases h
  | some l' => exact ⟨l', rfl, by rw [e2, cnt_app, hl]; simp [cnt, hs]⟩
theorem cnt_len {U : List En} : ∀ {s c : List Nat}, cnt s U = some c → c.length = s.length := by
  induction U with
  | nil => intro s c h; simp [cnt] at h; rw [h]
  | cons x U ih =>
    intro s c h
    simp only [cnt] at h
    cases hs : cntS s x with
    | none => rw [hs] at h; cases h
    | some n =>
      rw [hs] at h
      have h1 := ih h
      unfold cntS at hs
      split at hs
      · cases hs; rw [h1, List.length_set]
      · cases hs
theorem puts_app (a b : List En) : ∀ s, puts s (a ++ b) = (puts s a).bind fun n => puts n b := by
  induction a with
  | nil => intro s; rfl
  | cons x a ih =>
    intro s
    simp only [List.cons_append, puts]
    cases h : putS s x with
    | none => rfl
    | some n => simp [ih]
theorem puts_at {s c l : List Nat × List (Option En)} {U : List En} {i : Nat} {x : En} (h : puts s U = some c) (hx : U[i]? = some x) (hl : puts s (U.take i) = some l) : ∃ l', putS l x = some l' ∧ puts s (U.take (i + 1)) = some l' := by
  have hi : i < U.length := by
    rcases Nat.lt_or_ge i U.length with h | h
    · exact h
    · rw [List.getElem?_eq_none h] at hx; cases hx
  have hxx : U[i] = x := by rw [List.getElem?_eq_getElem hi] at hx; exact Option.some.inj hx
  have e1 : U = U.take i ++ x :: U.drop (i + 1) := by
    rw [← hxx, ← List.drop_eq_getElem_cons hi, List.take_append_drop]
  have e2 : U.take (i + 1) = U.take i ++ [x] := by rw [List.take_add_one, hx]; rfl
  rw [e1, puts_app, hl] at h
  simp only [Option.bind_some, puts] at h
  cases hs : putS l x with
  | none => rw [hs] at h; cases h
  | some l' => exact ⟨l', rfl, by rw [e2, puts_app, hl]; simp [puts, hs]⟩
theorem puts_len {U : List En} : ∀ {s c : List Nat × List (Option En)}, puts s U = some c → c.1.length = s.1.length ∧ c.2.length = s.2.length := by
  induction U with
  | nil => intro s c h; simp [puts] at h; rw [h]; exact ⟨rfl, rfl⟩
  | cons x U ih =>
    intro s c h
    simp only [puts] at h
    cases hs : putS s x with
    | none => rw [hs] at h; cases h
    | some n =>
      rw [hs] at h
      have h1 := ih h
      unfold putS at hs
      split at hs
      · cases hs
        simp only [List.length_set] at h1; exact h1
      · cases hs
theorem sums_succ : ∀ (k : Nat) (l : List Nat) (n : Nat), sums l n (k + 1) = (sums l n k).set (n + k) ((sums l n k).getD (n + k) 0 + (sums l n k).getD (n + k - 1) 0)
  | 0, l, n => rfl
  | k + 1, l, n => by
    rw [sums, sums_succ k, sums, show n + 1 + k = n + (k + 1) from by omega]
theorem sums_len : ∀ (k : Nat) (l : List Nat) (n : Nat), (sums l n k).length = l.length
  | 0, l, n => rfl
  | k + 1, l, n => by rw [sums, sums_len k, List.length_set]
theorem alls_eq : ∀ {l : List (Option En)} {A : List En}, alls l = some A → l = A.map some
  | [], A, h => by simp [alls] at h; subst h; rfl
  | none :: l, A, h => by simp [alls] at h
  | some x :: l, A, h => by
    simp only [alls] at h
    cases hr : alls l with
    | none => rw [hr] at h; cases h
    | some r => rw [hr] at h; simp at h; rw [← h, List.map_cons, alls_eq hr]
end Plain

/-- A row of entries, some not yet laid. -/
structure RO (w : World) (b : Nat) (l : List (Option En)) : Prop where
  cell : ∀ i x c, l[i]? = some (some x) → c < 6 → w.cell? ⟨b, i * 6 + c, none⟩ = (enc x)[c]?
  ex : ∀ j, j < l.length * 6 → (w.cell? ⟨b, j, none⟩).isSome = true
  fz : ∀ i, w.frozen? ⟨b, i, none⟩ = false
  lt : b < w.heap.size
theorem RO.kept {w w' : World} {b : Nat} {l : List (Option En)} (h : RO w b l) {B : Nat} (hb : Below B w w') (hB : b < B) : RO w' b l :=
  ⟨fun i x c hi hc => (hb.cell (p := ⟨b, i * 6 + c, none⟩) hB).trans (h.cell i x c hi hc), fun j hj => by rw [hb.cell (p := ⟨b, j, none⟩) hB]; exact h.ex j hj, fun i => (hb.frozen (p := ⟨b, i, none⟩) hB).trans (h.fz i), Nat.lt_of_lt_of_le h.lt hb.size⟩
theorem RO.other {w : World} {b b' i : Nat} {l : List (Option En)} {v : Value} (h : RO w b l) (hne : b' ≠ b) : RO (w.setCell ⟨b', i, none⟩ v) b l :=
  ⟨fun j x c hj hc => by rw [World.cell?_setCell_other _ _ _ _ (by simp [hne])]; exact h.cell j x c hj hc, fun j hj => by rw [World.cell?_setCell_other _ _ _ _ (by simp [hne])]; exact h.ex j hj, fun j => by rw [World.frozen?_setCell]; exact h.fz j, by simpa using h.lt⟩
theorem RO.re {w : World} {b : Nat} {A : List En} (h : RO w b (A.map some)) : RE w b A :=
  ⟨fun i c hi hc => h.cell i _ c (by rw [List.getElem?_map, List.getElem?_eq_getElem hi]; simp [List.getD, hi]) hc, h.fz, h.lt⟩
theorem RO.start (w : World) (n : Nat) : RO (w.alloc (.cells (madeCells ZC (n * 6)) 117)) w.heap.size (List.replicate n none) := by
  refine ⟨fun i x c hi hc => ?_, fun j hj => ?_, fun i => ?_, by simp⟩
  · rw [List.getElem?_replicate] at hi
    split at hi <;> simp at hi
  · rw [List.length_replicate] at hj
    simp only [World.cell?]; rw [heap_alloc_new]
    show ((madeCells ZC (n * 6))[j]?).isSome = true
    rw [Array.getElem?_eq_getElem (by rw [size_madeCells]; exact hj)]; rfl
  · simp only [World.frozen?]; rw [heap_alloc_new]; simp
theorem put6_in {w : World} {b i : Nat} (x : En) (ex : ∀ c, c < 6 → (w.cell? ⟨b, i * 6 + c, none⟩).isSome = true) (c : Nat) (hc : c < 6) : (put6 w b i x).cell? ⟨b, i * 6 + c, none⟩ = (enc x)[c]? := by
  obtain ⟨v0, e0⟩ := Option.isSome_iff_exists.1 (ex 0 (by omega))
  obtain ⟨v1, e1⟩ := Option.isSome_iff_exists.1 (ex 1 (by omega))
  obtain ⟨v2, e2⟩ := Option.isSome_iff_exists.1 (ex 2 (by omega))
  obtain ⟨v3, e3⟩ := Option.isSome_iff_exists.1 (ex 3 (by omega))
  obtain ⟨v4, e4⟩ := Option.isSome_iff_exists.1 (ex 4 (by omega))
  obtain ⟨v5, e5⟩ := Option.isSome_iff_exists.1 (ex 5 (by omega))
  unfold put6
  rcases c with _ | _ | _ | _ | _ | _ | c
  · rw [World.cell?_setCell_other _ _ _ _ (by simp), World.cell?_setCell_other _ _ _ _ (by simp), World.cell?_setCell_other _ _ _ _ (by simp), World.cell?_setCell_other _ _ _ _ (by simp), World.cell?_setCell_other _ _ _ _ (by simp)]
    exact World.cell?_setCell_same _ _ _ e0
  · rw [World.cell?_setCell_other _ _ _ _ (by simp), World.cell?_setCell_other _ _ _ _ (by simp), World.cell?_setCell_other _ _ _ _ (by simp), World.cell?_setCell_other _ _ _ _ (by simp)]
    exact World.cell?_setCell_same _ _ _ (by rw [World.cell?_setCell_other _ _ _ _ (by simp)]; exact e1)
  · rw [World.cell?_setCell_other _ _ _ _ (by simp), World.cell?_setCell_other _ _ _ _ (by simp), World.cell?_setCell_other _ _ _ _ (by simp)]
    exact World.cell?_setCell_same _ _ _ (by rw [World.cell?_setCell_other _ _ _ _ (by simp), World.cell?_setCell_other _ _ _ _ (by simp)]; exact e2)
  · rw [World.cell?_setCell_other _ _ _ _ (by simp), World.cell?_setCell_other _ _ _ _ (by simp)]
    exact World.cell?_setCell_same _ _ _ (by rw [World.cell?_setCell_other _ _ _ _ (by simp), World.cell?_setCell_other _ _ _ _ (by simp), World.cell?_setCell_other _ _ _ _ (by simp)]; exact e3)
  · rw [World.cell?_setCell_other _ _ _ _ (by simp)]
    exact World.cell?_setCell_same _ _ _ (by rw [World.cell?_setCell_other _ _ _ _ (by simp), World.cell?_setCell_other _ _ _ _ (by simp), World.cell?_setCell_other _ _ _ _ (by simp), World.cell?_setCell_other _ _ _ _ (by simp)]; exact e4)
  · exact World.cell?_setCell_same _ _ _ (by rw [World.cell?_setCell_other _ _ _ _ (by simp), World.cell?_setCell_other _ _ _ _ (by simp), World.cell?_setCell_other _ _ _ _ (by simp), World.cell?_setCell_other _ _ _ _ (by simp), World.cell?_setCell_other _ _ _ _ (by simp)]; exact e5)
  · omega
theorem put6_out {w : World} {b i : Nat} (x : En) (a : Addr) (h : a.block = b → a.off < i * 6 ∨ i * 6 + 6 ≤ a.off) : (put6 w b i x).cell? a = w.cell? a := by
  have ne : ∀ c, c < 6 → (⟨b, i * 6 + c, none⟩ : Addr) ≠ a := fun c hc e => by subst e; have := h rfl; simp at this; omega
  unfold put6
  rw [World.cell?_setCell_other _ _ _ _ (ne 5 (by omega)), World.cell?_setCell_other _ _ _ _ (ne 4 (by omega)), World.cell?_setCell_other _ _ _ _ (ne 3 (by omega)), World.cell?_setCell_other _ _ _ _ (ne 2 (by omega)), World.cell?_setCell_other _ _ _ _ (ne 1 (by omega))]
  exact World.cell?_setCell_other _ _ _ _ (ne 0 (by omega))
theorem put6_fz {w : World} {b i : Nat} (x : En) (a : Addr) : (put6 w b i x).frozen? a = w.frozen? a := by unfold put6; simp only [World.frozen?_setCell]
theorem put6_size {w : World} {b i : Nat} (x : En) : (put6 w b i x).heap.size = w.heap.size := by unfold put6; simp
theorem put6_bel {w0 w : World} {b i B : Nat} (x : En) (h : Below B w0 w) (hb : B ≤ b) : Below B w0 (put6 w b i x) := by
  unfold put6
  exact (((((h.setCell (p := ⟨b, i * 6, none⟩) hb _).setCell (p := ⟨b, i * 6 + 1, none⟩) hb _).setCell (p := ⟨b, i * 6 + 2, none⟩) hb _).setCell (p := ⟨b, i * 6 + 3, none⟩) hb _).setCell (p := ⟨b, i * 6 + 4, none⟩) hb _).setCell (p := ⟨b, i * 6 + 5, none⟩) hb _
theorem RO.put {w : World} {b : Nat} {l : List (Option En)} (h : RO w b l) (i : Nat) (hi : i < l.length) (x : En) : RO (put6 w b i x) b (l.set i (some x)) := by
  have ex : ∀ c, c < 6 → (w.cell? ⟨b, i * 6 + c, none⟩).isSome = true := fun c hc => h.ex (i * 6 + c) (by omega)
  refine ⟨fun j y c hj hc => ?_, fun j hj => ?_, fun j => by rw [put6_fz]; exact h.fz j, by rw [put6_size]; exact h.lt⟩
  · by_cases e : j = i
    · subst e
      rw [List.getElem?_set] at hj
      simp only [if_true, hi] at hj
      have : x = y := by simpa using hj
      subst this
      exact put6_in x ex c hc
    · rw [List.getElem?_set, if_neg (Ne.symm e)] at hj
      rw [put6_out x ⟨b, j * 6 + c, none⟩ (fun _ => by show j * 6 + c < i * 6 ∨ i * 6 + 6 ≤ j * 6 + c; omega)]
      exact h.cell j y c hj hc
  · rw [List.length_set] at hj
    by_cases e : i * 6 ≤ j ∧ j < i * 6 + 6
    · obtain ⟨c, rfl⟩ : ∃ c, j = i * 6 + c := ⟨j - i * 6, by omega⟩
      rw [put6_in x ex c (by omega)]
      have hc : c < 6 := by omega
      rcases c with _ | _ | _ | _ | _ | _ | c <;> first | rfl | omega
    · rw [put6_out x ⟨b, j, none⟩ (fun _ => by show j < i * 6 ∨ i * 6 + 6 ≤ j; omega)]
      exact h.ex j hj
theorem RN.put6 {w : World} {b b' i : Nat} {l : List Nat} (h : RN w b l) (x : En) (hne : b ≠ b') : RN (YbulkcgjqFmt.put6 w b' i x) b l :=
  ⟨fun j hj => by rw [put6_out x ⟨b, j, none⟩ (fun e => absurd e hne)]; exact h.cell j hj, fun j => by rw [put6_fz]; exact h.fz j, by rw [put6_size]; exact h.lt⟩
theorem RE.put6 {w : World} {b b' i : Nat} {l : List En} (h : RE w b l) (x : En) (hne : b ≠ b') : RE (YbulkcgjqFmt.put6 w b' i x) b l :=
  ⟨fun j c hj hc => by rw [put6_out x ⟨b, j * 6 + c, none⟩ (fun e => absurd e hne)]; exact h.cell j c hj hc, fun j => by rw [put6_fz]; exact h.fz j, by rw [put6_size]; exact h.lt⟩
/-- What is owned is a row of entries. -/
theorem owns_re {w : World} {base g n cap : Nat} {l : List En} (h : w.ownsRow base 117 6 (.slice (some ⟨g, 0, none⟩) n cap) n (EL l)) : RE w g l := by
  have hlt := (h.lt g rfl).2
  rcases h.2 with ⟨hv, _⟩ | ⟨g', cap', cur, hv, _, hh, _⟩
  · cases hv
  · cases hv
    refine ⟨fun i c hi hc => ?_, fun i => ?_, hlt⟩
    · have hx : l[i]? = some (l.getD i En.z) := by simp [List.getD, hi]
      have hg := EL_get l i c _ hx hc
      obtain ⟨v, hv⟩ : ∃ v, (enc (l.getD i En.z))[c]? = some v := by
        rcases c with _ | _ | _ | _ | _ | _ | c <;> first | exact ⟨_, rfl⟩ | omega
      rw [hv] at hg ⊢
      have := h.cells (g := g) rfl (i * 6 + c) v hg
      have hadd : (⟨g, 0, none⟩ : Addr).add (i * 6 + c) = ⟨g, i * 6 + c, none⟩ := by unfold Addr.add; split <;> simp_all
      rwa [hadd] at this
    · simp only [World.frozen?]; rw [hh]; simp
end Go.Proofs.YbulkcgjqFmt
