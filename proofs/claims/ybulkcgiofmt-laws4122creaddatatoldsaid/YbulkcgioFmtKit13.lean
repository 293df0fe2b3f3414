import Derived.Test.YbulkcgioFmtKit12
import Derived.Deep.Upon
import Derived.Laws.AppendOwn
namespace Go.Proofs.YbulkcgioFmt.Kit
set_option linter.unusedSimpArgs false
set_option linter.unusedVariables false
open Go.ChangeShapes Go.WideShapes Go.ChangeAt Go.RowKit

theorem wpList_app0 {ops : Array Oper} {rest : List Oper} {o : Oper} {a : Act} {w : World} {Q : Exit → Act → World → Prop} (hgd : o.guard = none) (s x : Operand)
    (ho : o.op = .call { callee := .builtin .append, args := #[s, x], argTypes := #[22, 22] }) (v1 v2 v' : Value) (w' : World) (hs : a.eval s = v1) (hx : a.eval x = v2)
    (hrun : ∀ ty, (Builtin.append_ #[22, 22] ty #[v1, v2]).run Ybaf.prog w = .ok v' w') (h : wpList Ybaf.prog ops Q rest (a.put o.dst v') w') :
    wpList Ybaf.prog ops Q (o :: rest) a w := by
  refine wpList_plain hgd fun K hK' => ?_
  unfold Oper.wp
  simp [execOp, ho, resolve, invoke, builtin, hs, hx, hrun, Result.andThen]
  exact hK' _ _ h

/-- What append(nil, prior...) gives. -/
structure App (w w1 : World) (p0 : Option Addr) (lp c0 : Nat) : Prop where
  below : Below w.heap.size w w1
  le : lp ≤ c0
  ok : (p0 = none ∧ c0 = 0) ∨ ∃ g, p0 = some ⟨g, 0, none⟩ ∧ w.heap.size ≤ g ∧ g < w1.heap.size ∧ (∀ j, j < c0 → (w1.cell? ⟨g, j, none⟩).isSome = true) ∧ (∀ i, w1.frozen? ⟨g, i, none⟩ = false)

theorem app_nil (w : World) (b : Option Addr) (lp cp : Nat) (ps : List Int) (hlp : lp ≤ 16384) (h : ∀ j, j < lp → ∃ x, b = some x ∧ w.cell? (x.add j) = some (.int .u8 (ps.getD j 0))) :
    ∃ p0 c0 w1, (∀ ty, (Builtin.append_ #[22, 22] ty #[.slice none 0 0, .slice b lp cp]).run Ybaf.prog w = .ok (.slice p0 lp c0) w1) ∧ App w w1 p0 lp c0 := by
  obtain ⟨i, hi, hz0, hz1, hz2⟩ := info_parts info5
  rcases Nat.eq_zero_or_pos lp with h0 | h0
  · subst h0
    refine ⟨none, 0, w, fun ty => ?_, Below.refl _ _, Nat.le_refl _, .inl ⟨rfl, rfl⟩⟩
    refine run_append_nothing w 22 22 ty 5 i Ybaf.underlying22 hi none 0 0 (Nat.le_refl _) _ ?_
    cases b with
    | none => exact Src.ofNil w Ybaf.underlying22 cp
    | some x => exact Src.ofSlice w Ybaf.underlying22 x 0 cp [] (by simp) (fun j u hj => by simp at hj) (fun u hu => by simp at hu)
  · obtain ⟨x, rfl, _⟩ := h 0 h0
    refine ⟨some ⟨w.heap.size, 0, none⟩, _, _, fun ty => run_append_nil (P := Ybaf.prog) w 22 ty 5 i (.int .u8 0) Ybaf.underlying22 hi hz0 x lp cp (by8 ps 0 lp) (by rw [by8_len, hz1]; omega) (fun j v hv => ?_) h0 (by omega) (by rw [hz2]; omega), ?_, ?_, ?_⟩
    · have hj : j < lp := by rw [← by8_len ps 0 lp]; exact (List.getElem?_eq_some_iff.1 hv).1
      rw [by8_get _ _ _ _ hj] at hv
      cases hv
      obtain ⟨y, hy, hc⟩ := h j hj
      cases hy
      simpa using hc
    · exact (Below.refl _ w).drew.alloc (Nat.le_refl _) _
    · exact grownCap_ge w lp 0 5
    · refine .inr ⟨w.heap.size, rfl, Nat.le_refl _, by simp, fun j hj => ?_, fun i => by simp [go_sem]⟩
      have hg := grownCap_ge w lp 0 5
      simp [go_sem]
      have hz : (Builtin.zeroCells #[Value.int IntKind.u8 0] (grownCap w lp 0 5 - lp)).size = grownCap w lp 0 5 - lp := by simp [Builtin.zeroCells]
      rw [by8_len, hz]; omega
end Go.Proofs.YbulkcgioFmt.Kit
