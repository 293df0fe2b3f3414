import Derived.Test.YbulkcgioFmtKit11
import Derived.Laws.BytesArg
namespace Go.Proofs.YbulkcgioFmt.Kit
set_option linter.unusedSimpArgs false
set_option linter.unusedVariables false
open Go.ChangeShapes Go.WideShapes Go.ChangeAt Go.RowKit

/-- The octets of z from pos on lie behind p. -/
def BytesAt (w : World) (p : Option Addr) (l pos : Nat) (z : List Int) : Prop := ∀ j, j < l → ∃ x, p = some x ∧ w.cell? (x.add j) = some (.int .u8 (z.getD (pos + j) 0))
def cut (z : List Int) (pos l : Nat) : List Int := (List.range l).map fun j => z.getD (pos + j) 0
theorem cut_len (z : List Int) (pos l : Nat) : (cut z pos l).length = l := by simp [cut]
theorem cut_get (z : List Int) (pos l j : Nat) (h : j < l) : (cut z pos l)[j]? = some (z.getD (pos + j) 0) := by simp [cut, h]

theorem conv22 (w : World) (p : Option Addr) (l c pos : Nat) (z : List Int) (h : BytesAt w p l pos z) : (convert 22 9 (.slice p l c)).run Ybaf.prog w = .ok (.string (strOfNums (cut z pos l))) w := by
  rw [run_convert_bytes_string w 22 9 5 p l c Ybaf.underlying22 Ybaf.underlying5 Ybaf.underlying9]
  cases p with
  | none =>
    have hl : l = 0 := by
      rcases Nat.eq_zero_or_pos l with h0 | h0
      · exact h0
      · obtain ⟨x, hx, _⟩ := h 0 h0; cases hx
    subst hl
    simp [Conv.bytesToString, cut, strOfNums]
    rfl
  | some x =>
    have hl : (loadCells x l).run Ybaf.prog w = .ok ((cut z pos l).map (Value.int .u8)).toArray w := by
      have := run_loadCells_list (P := Ybaf.prog) w x ((cut z pos l).map (Value.int .u8)) (fun j v hj => by
        have hjl : j < l := by
          have := (List.getElem?_eq_some_iff.1 hj).1
          simpa [cut_len] using this
        obtain ⟨y, hy, hc⟩ := h j hjl
        cases hy
        rw [hc]
        simp [cut_get _ _ _ _ hjl] at hj
        simp [hj])
      simpa [cut_len] using this
    rw [run_bytesToString w _ l c _ hl, foldl_push_bytes]
    simp [strOfNums, ByteArray.empty, ByteArray.emptyWithCapacity]
    rfl

/-- bytes.Equal where both hold the same octets. -/
theorem bequal (w : World) (p q : Option Addr) (l c d pos : Nat) (z : List Int) (h1 : BytesAt w p l pos z) (h2 : BytesAt w q l pos z) :
    Calls Ybaf.prog 7 #[.slice p l c, .slice q l d] w fun e w' => e = .returned (.bool true) ∧ w' = w := by
  have k1 := conv22 w p l c pos z h1
  have k2 := conv22 w q l d pos z h2
  clear h1 h2
  generalize strOfNums (cut z pos l) = S at *
  go_enter Ybaf.func7, Ybaf.ntmps7
  go_wp2
  go_ret
  exact ⟨rfl, rfl⟩
end Go.Proofs.YbulkcgioFmt.Kit
