import Derived.Test.YbulkcgjqFmtKit2
import Derived.Test.YbulkcgjqFmtKit5
namespace Go.Proofs.YbulkcgjqFmt
set_option linter.unusedSimpArgs false
set_option linter.unusedVariables false
open Go.ChangeShapes Go.WideShapes Go.ChangeAt Go.RowKit Go.Sort

def EL (l : List En) : List Value := l.flatMap enc
theorem EL_len (l : List En) : (EL l).length = l.length * 6 := by
  induction l with
  | nil => rfl
  | cons a l ih => simp only [EL, List.flatMap_cons, List.length_append] at *; rw [ih]; simp [enc]; omega
theorem EL_app (a b : List En) : EL (a ++ b) = EL a ++ EL b := by simp [EL]
theorem unL_succ (cn : Nat → Nat → Nat) (n : Nat) : unL cn (n + 1) = unL cn n ++ [enOf cn (n / 4) (n % 4)] := by simp [unL, List.range_succ]
theorem EL_get (l : List En) (i c : Nat) (x : En) (hx : l[i]? = some x) (hc : c < 6) : (EL l)[i * 6 + c]? = (enc x)[c]? := by
  induction l generalizing i with
  | nil => simp at hx
  | cons a l ih =>
    have e1 : EL (a :: l) = enc a ++ EL l := by simp [EL]
    rw [e1]
    rcases i with _ | i
    · simp at hx; subst hx
      rw [List.getElem?_append_left (by simp [enc]; omega)]; simp
    · have : (enc a).length = 6 := rfl
      rw [List.getElem?_append_right (by rw [this]; omega), this, show (i + 1) * 6 + c - 6 = i * 6 + c from by omega]
      exact ih i (by simpa using hx)

def Zen : Value := .agg #[.int .i32 0, .int .i32 0, .int .i32 0, .int .i32 0, .int .i32 0, .int .i32 0]
def ZC : Array Value := Zen.cells
theorem info117 : (Ybaf.prog.info? 117).map (fun i => (i.zero, i.size, i.bytes)) = some (some Zen, 6, 24) := by kernel_rfl
theorem mkE0 (n : Nat) (hn : n ≤ 1000) (w : World) : (Instr.makeSlice 108 (.int .i64 0) (.int .i64 n)).run Ybaf.prog w = .ok (.slice (some ⟨w.heap.size, 0, none⟩) 0 n) (w.alloc (.cells (madeCells ZC (n * 6)) 117)) := by
  obtain ⟨i, hi, hz0, hz1, hz2⟩ := info_parts info117
  have := run_make (P := Ybaf.prog) w 108 117 i Zen Ybaf.underlying108 hi hz0 .i64 .i64 0 n (by omega) (by omega) (by rw [hz2]; omega) (by omega)
  rw [hz1] at this
  simpa [ZC] using this
theorem mkE (n : Nat) (hn : n ≤ 1000) (w : World) : (Instr.makeSlice 108 (.int .i64 n) (.int .i64 n)).run Ybaf.prog w = .ok (.slice (some ⟨w.heap.size, 0, none⟩) n n) (w.alloc (.cells (madeCells ZC (n * 6)) 117)) := by
  obtain ⟨i, hi, hz0, hz1, hz2⟩ := info_parts info117
  have := run_make (P := Ybaf.prog) w 108 117 i Zen Ybaf.underlying108 hi hz0 .i64 .i64 n n (by omega) (by omega) (by rw [hz2]; omega) (by omega)
  rw [hz1] at this
  simpa [ZC] using this
theorem mkI (n : Nat) (hn : n ≤ 1000) (w : World) : (Instr.makeSlice 70 (.int .i64 n) (.int .i64 n)).run Ybaf.prog w = .ok (.slice (some ⟨w.heap.size, 0, none⟩) n n) (w.alloc (.cells (madeCells #[.int .i64 0] n) 3)) := by
  obtain ⟨i, hi, hz0, hz1, hz2⟩ := info_parts info3
  have := run_make (P := Ybaf.prog) w 70 3 i (.int .i64 0) Ybaf.underlying70 hi hz0 .i64 .i64 n n (by omega) (by omega) (by rw [hz2]; omega) (by omega)
  rw [hz1] at this
  simpa [Value.cells] using this

/-- append of one entry within the capacity. -/
theorem wpList_en {ops : Array Oper} {rest : List Oper} {o : Oper} {a : Act} {w : World} {Q : Exit → Act → World → Prop} (hgd : o.guard = none) (s x : Operand)
    (ho : o.op = .call { callee := .builtin .append, args := #[s, x], argTypes := #[108, 108] })
    (base g k cap : Nat) (l : List En) (y : En) (hs : a.eval s = .slice (some ⟨g, 0, none⟩) k cap) (hown : w.ownsRow base 117 6 (.slice (some ⟨g, 0, none⟩) k cap) k (EL l))
    (ad : Addr) (hx : a.eval x = .slice (some ad) 1 1) (hc : ∀ j u, (enc y)[j]? = some u → w.cell? (ad.add j) = some u) (b1 : k + 1 ≤ cap)
    (h : ∀ w', w'.ownsRow base 117 6 (.slice (some ⟨g, 0, none⟩) (k + 1) cap) (k + 1) (EL (l ++ [y])) → w.grownBy w' (some g) → wpList Ybaf.prog ops Q rest (a.put o.dst (.slice (some ⟨g, 0, none⟩) (k + 1) cap)) w') :
    wpList Ybaf.prog ops Q (o :: rest) a w := by
  obtain ⟨i, hi, hz0, hz1, hz2⟩ := info_parts info117
  refine wpList_append_fits w hgd s x 108 ho base 117 i 6 Ybaf.underlying108 hi hz1 g k cap (EL l) hs hown ad 1 1 (enc y) hx rfl hc (by simp [enc, Value.oneCell']) b1 ?_
  intro w' h1 h2
  have e1 : EL (l ++ [y]) = EL l ++ enc y := by simp [EL]
  rw [e1] at h
  exact h w' h1 h2
end Go.Proofs.YbulkcgjqFmt
