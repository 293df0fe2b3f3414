import Derived.Test.YbulkcgjqFmtKit11
import Derived.Test.YbulkcgjqFmtKit12
namespace Go.Proofs.YbulkcgjqFmt
set_option linter.unusedSimpArgs false
set_option linter.unusedVariables false
open Go.Shelf Go.Lib Go.Sort

theorem enc_bang (x : En) (c : Nat) (hc : c < 6) : (enc x)[c]? = some ((enc x)[c]!) := by
  rcases c with _ | _ | _ | _ | _ | _ | c <;> first | rfl | omega
theorem bucket_get [hI : Inhabited En] (A : List En) (st en i : Nat) (h1 : st ≤ en) (h2 : en ≤ A.length) (hi : i < en - st) : (((A.drop st).take (en - st)).toArray)[i]! = A.getD (st + i) En.z := by
  have hl : i < ((A.drop st).take (en - st)).length := by simp; omega
  simp [List.getD, hi, show st + i < A.length from by omega]
theorem holds_nil [hI : Inhabited En] (w : World) (b o : Nat) : HoldsK enc 6 w b o (#[] : Array En) := fun j hj => by rw [size_flatK] at hj; simp at hj
theorem bucket_holds [hI : Inhabited En] {w : World} {eb : Nat} {A : List En} (h : RE w eb A) (st en : Nat) (h1 : st ≤ en) (h2 : en ≤ A.length) : HoldsK enc 6 w eb (st * 6) ((A.drop st).take (en - st)).toArray := by
  intro j hj
  rw [size_flatK] at hj
  have hs : ((A.drop st).take (en - st)).toArray.size = en - st := by simp; omega
  rw [hs] at hj
  refine ⟨?_, h.fz _⟩
  rw [get_flatK enc 6 _ j (by rw [hs]; exact hj), bucket_get A st en (j / 6) h1 h2 (by omega)]
  have hc := h.cell (st + j / 6) (j % 6) (by omega) (Nat.mod_lt _ (by omega))
  rw [show (st + j / 6) * 6 + j % 6 = st * 6 + j from by omega, enc_bang _ _ (Nat.mod_lt _ (by omega))] at hc
  exact hc

/-- A bucket sorted. -/
theorem bucket_done [hI : Inhabited En] {w : World} {eb n : Nat} {os : Array Obj} {A : List En} (h : RE w eb A) (st en : Nat) (h1 : st ≤ en) (h2 : en ≤ A.length) (W : World)
    (e : W = sortWorldK enc 6 w eb (st * 6) n (Sort.insertionSort (ltOf cf) ((A.drop st).take (en - st)).toArray 0 ((A.drop st).take (en - st)).toArray.size) os) :
    RE W eb (A.take st ++ Plain.isort ((A.drop st).take (en - st)) ++ A.drop en) ∧ W.os = w.os ∧ W.tape = w.tape ∧ W.output = w.output ∧ w.heap.size ≤ W.heap.size ∧ (∀ k, k < w.heap.size → k ≠ eb → W.heap[k]? = w.heap[k]?) := by
  have hs : ((A.drop st).take (en - st)).toArray.size = en - st := by simp; omega
  obtain ⟨d', hd⟩ : ∃ d', d' = Sort.insertionSort (ltOf cf) ((A.drop st).take (en - st)).toArray 0 ((A.drop st).take (en - st)).toArray.size := ⟨_, rfl⟩
  have hl := isort_eq ((A.drop st).take (en - st)).toArray
  rw [← hd] at e hl
  have hds : d'.size = en - st := by
    rw [← Array.length_toList, hl, isort_len]; simp; omega
  have hH := holdsK_sortWorldK_c enc 6 w eb (st * 6) _ d' n os (bucket_holds h st en h1 h2) h.lt (by rw [hds, hs])
  have hsz : w.heap.size ≤ W.heap.size := by rw [e]; exact size_sortWorldK_c enc 6 w eb (st * 6) n d' os
  have hout : ∀ a : Addr, a.block < w.heap.size → (a.block ≠ eb ∨ a.off < st * 6 ∨ en * 6 ≤ a.off) → W.cell? a = w.cell? a := fun a ha hne => by
    rw [e]
    unfold sortWorldK putRowK
    rw [cell?_grow _ _ _ (by rw [size_putRow]; exact ha)]
    exact cell?_putRow_other id (Sort.ahead w n) eb (st * 6) _ a (by rw [size_flatK, hds]; omega)
  have hfz : ∀ a : Addr, a.block < w.heap.size → W.frozen? a = w.frozen? a := fun a ha => by
    rw [e]
    unfold sortWorldK putRowK
    rw [frozen?_grow _ _ _ (by rw [size_putRow]; exact ha), frozen?_putRow]; rfl
  refine ⟨⟨fun i c hi hc => ?_, fun i => by rw [hfz _ h.lt]; exact h.fz i, Nat.lt_of_lt_of_le h.lt hsz⟩, by rw [e]; rfl, by rw [e]; rfl, by rw [e]; rfl, hsz, fun k hk hke => ?_⟩
  · have hil : i < A.length := by
      rw [List.length_append, List.length_append, isort_len] at hi
      simp at hi; omega
    by_cases hin : st ≤ i ∧ i < en
    · have hg := (hH ((i - st) * 6 + c) (by rw [size_flatK, hds]; omega)).1
      rw [get_flatK enc 6 _ _ (by rw [hds]; omega), show st * 6 + ((i - st) * 6 + c) = i * 6 + c from by omega, show ((i - st) * 6 + c) / 6 = i - st from by omega, show ((i - st) * 6 + c) % 6 = c from by omega] at hg
      rw [e, hg]
      have e1 : (A.take st ++ Plain.isort ((A.drop st).take (en - st)) ++ A.drop en).getD i En.z = d'[i - st]! := by
        have hl2 : Plain.isort ((A.drop st).take (en - st)) = d'.toList := hl.symm
        rw [hl2]
        have hA : (A.take st).length = st := by simp; omega
        rw [List.getD, List.getElem?_append_left (by simp [hds]; omega), List.getElem?_append_right (by rw [hA]; exact hin.1), hA]
        simp [hds, show i - st < en - st from by omega]
      rw [e1]
      exact (enc_bang _ c hc).symm
    · have hout' := hout ⟨eb, i * 6 + c, none⟩ h.lt (.inr (by show i * 6 + c < st * 6 ∨ en * 6 ≤ i * 6 + c; omega))
      rw [hout', h.cell i c hil hc]
      have e1 : (A.take st ++ Plain.isort ((A.drop st).take (en - st)) ++ A.drop en).getD i En.z = A.getD i En.z := by
        have hA : (A.take st).length = st := by simp; omega
        have hI : (Plain.isort ((A.drop st).take (en - st))).length = en - st := by rw [isort_len]; simp; omega
        rcases Nat.lt_or_ge i st with h3 | h3
        · simp only [List.getD]
          rw [List.getElem?_append_left (by rw [List.length_append, hA]; omega), List.getElem?_append_left (by rw [hA]; exact h3), List.getElem?_take, if_pos h3]
        · simp only [List.getD]
          rw [List.getElem?_append_right (by rw [List.length_append, hA, hI]; omega), List.length_append, hA, hI, List.getElem?_drop]
          congr 2; omega
      rw [e1]
  · rw [e]
    unfold sortWorldK putRowK
    rw [heap_grow_old _ _ (by rw [size_putRow]; exact hk)]
    simp only [putRow, mapBlock, Array.getElem?_modify, if_neg (Ne.symm hke)]
    rfl
end Go.Proofs.YbulkcgjqFmt
