import Derived.Test.YbulkcgjqFmtKit17
import Derived.Test.YbulkcgjqFmtKit6
import Derived.Test.YbulkcgjqFmtKit15
import Derived.Test.YbulkcgjqFmtPlainAll
namespace Go.Proofs.YbulkcgjqFmt
set_option linter.unusedSimpArgs false
set_option linter.unusedVariables false
open Go.ChangeShapes Go.WideShapes Go.ChangeAt Go.RowKit Go.Sort

theorem cnG_lt (nx ny e c : Nat) (hx : 1 ≤ nx) (he : e < nx * ny) (hc : c < 4) : Plain.cnG nx e c < (nx + 1) * (ny + 1) := by
  have hq : e / nx < ny := Nat.div_lt_of_lt_mul he
  have hr : e % nx < nx := Nat.mod_lt _ (by omega)
  have h1 : (e / nx + 1) * (nx + 1) ≤ ny * (nx + 1) := Nat.mul_le_mul_right _ hq
  rw [Nat.add_mul, Nat.one_mul] at h1
  have h2 : (nx + 1) * (ny + 1) = ny * (nx + 1) + (nx + 1) := by rw [Nat.mul_add, Nat.mul_one, Nat.mul_comm]
  rw [h2]
  unfold Plain.cnG
  split
  · omega
  · split
    · omega
    · split <;> omega

theorem Gr.cells {w w1 : World} {Mb k nx nb N : Nat} (h : Gr w w1 Mb k nx nb N) (hk : 0 < k) : ∃ gb cE, w1.cell? ⟨Mb, 2, none⟩ = some (.slice (some ⟨gb, 0, none⟩) k cE) ∧ gb < w1.heap.size ∧ ∀ e c, e < k → c < 11 → w1.cell? ⟨gb, e * 11 + c, none⟩ = (elC e (e / nx * (nx + 1) + e % nx) (nx + 1))[c]? := by
  obtain ⟨q, c, h1, h2, h3⟩ := h.c2
  rcases h3 with ⟨h3, h4⟩ | ⟨g, cap, cur, hv, hg, hh, hn, hm, hs, ht⟩
  · omega
  · cases hv
    refine ⟨g, c, h1, ?_, fun e c he hc => ?_⟩
    · by_cases hlt : g < w1.heap.size
      · exact hlt
      · rw [Array.getElem?_eq_none (by omega)] at hh; cases hh
    · have hcell : w1.cell? ⟨g, e * 11 + c, none⟩ = cur[e * 11 + c]? := by simp only [World.cell?]; rw [hh]; rfl
      rw [hcell, ← elsL_get nx e c hc k he, ← ht, List.getElem?_take, if_pos (by omega), Array.getElem?_toList]

theorem Gr.mh {w w1 : World} {Mb k nx nb N : Nat} (h : Gr w w1 Mb k nx nb N) (hk : 0 < k) : ∃ gb cE, Mh w1 w1.heap.size Mb gb nb cE k N (Plain.cnG nx) ∧ ∀ e c, e < k → c < 11 → ∃ x : Int, w1.cell? ⟨gb, e * 11 + c, none⟩ = some (.int (kC c) x) := by
  obtain ⟨gb, cE, h1, h2, h3⟩ := h.cells hk
  refine ⟨gb, cE, ⟨h.c0, h.c1, h1, h.c3, h.c5, fun e he => h3 e 2 he (by omega), fun e c he hc => ?_, h.lt, h2⟩, fun e c he hc => ?_⟩
  · rw [show e * 11 + 3 + c = e * 11 + (3 + c) from by omega, h3 e (3 + c) he (by omega)]
    rcases c with _ | _ | _ | _ | c
    · simp [elC, Plain.cnG]
    · simp [elC, Plain.cnG]
    · simp [elC, Plain.cnG]
    · simp [elC, Plain.cnG]
    · omega
  · rw [h3 e c he hc]
    rcases c with _ | _ | _ | _ | _ | _ | _ | _ | _ | _ | _ | c <;> first | exact ⟨_, rfl⟩ | omega

theorem Kn.more {w : World} {B B' : Nat} {k : KP} (h : Kn w B k) (hB : B ≤ B') : Kn w B' k :=
  ⟨h.dim, h.cor, h.fac, h.row, h.i0, h.i1, Nat.lt_of_lt_of_le h.b0 hB, Nat.lt_of_lt_of_le h.bF hB, fun f hf => Nat.lt_of_lt_of_le (h.bR f hf) hB⟩

theorem expC_eq (i j f nx ny : Nat) : expC i j f nx ny = sideC (Plain.expS i j f nx ny) := by
  unfold expC Plain.expS sideC
  split
  · simp
  · split
    · simp
    · split
      · simp
      · split
        · simp
        · simp
/-- All that the plain law says of a grid. -/
theorem whole_facts (nx ny : Nat) (hx : 1 ≤ nx ∧ nx ≤ 8) (hy : 1 ≤ ny ∧ ny ≤ 8) : ∃ c p1 p2 A E fin, Plain.cnt (List.replicate ((nx + 1) * (ny + 1) + 1) 0) (unL (Plain.cnG nx) (4 * (nx * ny))) = some c ∧ Plain.puts (Plain.sums c 1 ((nx + 1) * (ny + 1)), List.replicate (4 * (nx * ny)) none) (unL (Plain.cnG nx) (4 * (nx * ny))) = some (p1, p2) ∧ Plain.alls p2 = some A ∧ Plain.buckets 0 A (p1.take ((nx + 1) * (ny + 1))) = some E ∧
    Plain.runsF (Plain.cnG nx) 300 E ⟨List.replicate (4 * (nx * ny)) (0, 0, 0), 0, 0⟩ = some fin ∧ E.length = 4 * (nx * ny) ∧ (∀ i, i < 4 * (nx * ny) → (E.getD i En.z).e < nx * ny ∧ (E.getD i En.z).f < 4) ∧ (∀ k, k < 4 * (nx * ny) → fin.sides.getD k (0, 0, 0) = Plain.expS (k / 4 % nx) (k / 4 / nx) (k % 4) nx ny) ∧ fin.inn = (nx - 1) * ny + nx * (ny - 1) ∧ fin.bnd = 2 * nx + 2 * ny := by
  have h := Plain.whole_all nx ny hx hy
  unfold Plain.whole at h
  split at h
  · cases h
  · next E hE =>
    split at h
    · cases h
    · next fin hfin =>
      simp only [Bool.and_eq_true, beq_iff_eq, List.all_eq_true, List.mem_range, decide_eq_true_eq] at h
      obtain ⟨⟨⟨⟨h1, h2⟩, h3⟩, h4⟩, h5⟩ := h
      unfold Plain.sorted at hE
      simp only [Option.bind_eq_some_iff] at hE
      obtain ⟨c, hc, ⟨p1, p2⟩, hp, A, hA, hb⟩ := hE
      refine ⟨c, p1, p2, A, E, fin, hc, hp, hA, hb, hfin, h4, fun i hi => ?_, h1, h2, h3⟩
      have hm : E.getD i En.z ∈ E := by
        rw [List.getD_eq_getElem?_getD, List.getElem?_eq_getElem (by omega)]; simp
      exact h5 _ hm
theorem neq33 (a b c : Int) (w : World) : (binOp .neq 33 (.agg #[.int .i32 a, .int .i32 b, .int .u8 c, .bool false, .int .i64 0]) (.agg #[.int .i32 a, .int .i32 b, .int .u8 c, .bool false, .int .i64 0])).run Ybaf.prog w = .ok (.bool false) w := by
  go_simp
end Go.Proofs.YbulkcgjqFmt
