import Derived.Test.YbulkcgkeKit2
namespace Go.Proofs.Ybulkcgke
set_option linter.unusedSimpArgs false
set_option linter.unusedVariables false
open Go.ChangeShapes Go.WideShapes Go.ChangeAt Go.RowKit Go.Shelf Go.Lib

/-- where SearchInts puts q among -nl .. -1 -/
def plc (nl : Nat) (q : Int) : Nat := (lows nl).toList.countP (fun y => !decide (q ≤ y))
theorem plc_eq (nl : Nat) (q : Int) : (plc nl q : Int) = if q ≤ -nl then 0 else if 0 ≤ q then (nl : Int) else q + nl := lows_count nl q
theorem plc_le (nl : Nat) (q : Int) : plc nl q ≤ nl := by have := plc_eq nl q; split at this <;> (try split at this) <;> omega
def isLow (nl : Nat) (q : Int) : Bool := decide (-(nl : Int) ≤ q) && decide (q ≤ -1)

theorem hide' {p : Prop} (h : p) : Hid p := h
/-- The ids' row. -/
def Ids (w : World) (p : Option Addr) (nl : Nat) : Prop := ∀ i, i < nl → ∃ blk off, p = some ⟨blk, off, none⟩ ∧ blk < w.heap.size ∧ w.cell? ⟨blk, off + i, none⟩ = some (.int .i64 ((i : Int) - nl))

theorem search_low (p : Option Addr) (nl cap : Nat) (q : Int) (w : World) (hi : Ids w p nl) (hnl : nl ≤ 255) : Calls Yba.prog 15 #[.slice p nl cap, .int .i64 q] w fun e w' => e = .returned (.int .i64 (plc nl q)) ∧ Below w.heap.size w w' := by
  rcases Nat.eq_zero_or_pos nl with h0 | h0
  · subst h0
    exact Any.sort_SearchInts_none Yba.searchInts p cap q w
  · obtain ⟨blk, off, rfl, hb, _⟩ := hi 0 h0
    have h := search blk off cap (lows nl) q w (fun i hi' => by
      rw [lows_size] at hi'
      obtain ⟨b2, o2, e, _, hc⟩ := hi i hi'
      cases e
      rw [lows_get _ _ hi']; exact hc) hb (by rw [lows_size]; omega) (fun a b hab hb' => by
      rw [lows_size] at hb'
      rw [lows_get _ _ (by omega), lows_get _ _ hb']; omega)
    rw [lows_size] at h
    exact h

set_option maxHeartbeats 1000000 in
/-- (*peerSet).place. -/
theorem place_calls (Nb o nl cap : Nat) (p : Option Addr) (q : Int) (w : World) (hNb : Nb < w.heap.size) (h0 : w.cell? ⟨Nb, o, none⟩ = some (.slice p nl cap)) (hi : Ids w p nl) (hnl : nl ≤ 255) :
    Calls Yba.prog 17 #[.pointer (some ⟨Nb, o, none⟩), .int .i64 q] w fun e w' => e = .returned (.tuple #[.int .i64 (plc nl q), .bool (isLow nl q)]) ∧ Below w.heap.size w w' := by
  have hcall := search_low p nl cap q w hi hnl
  have HI := hide' hi
  clear hi
  go_enter Yba.func17, Yba.ntmps17
  go_wp2_with fail
  refine hcall.mono ?_
  rintro e w2 ⟨rfl, hB⟩
  have c0 : w2.cell? ⟨Nb, o, none⟩ = some (.slice p nl cap) := (hB.cell hNb).trans h0
  have hpe := plc_eq nl q
  have hpl := plc_le nl q
  by_cases hlt : plc nl q < nl
  · obtain ⟨blk, off, rfl, hb, hc⟩ := HI.out (plc nl q) hlt
    have hc2 : w2.cell? ⟨blk, off + plc nl q, none⟩ = some (.int .i64 ((plc nl q : Int) - nl)) := (hB.cell hb).trans hc
    have hl1 : decide ((plc nl q : Int) < nl) = true := by simp; omega
    have hl2 : (plc nl q : Int) < nl := by omega
    have heq : ((plc nl q : Int) - nl == q) = isLow nl q := by
      rw [Bool.eq_iff_iff]; simp [isLow]; split at hpe <;> (try split at hpe) <;> omega
    have HB := hide' hB
    generalize (plc nl q : Int) - nl = v at *
    have HPE := hide' hpe
    clear hpe hB hcall hc h0 HI
    generalize hk : plc nl q = k at *
    generalize hr : isLow nl q = r at *
    have HK := hide' hk
    have HR := hide' hr
    clear hk hr
    go_wp2_with fail
    go_quiet (fail)
    go_wp2_with fail
    go_ret2
    exact ⟨by simp [heq, HK.out, HR.out], HB.out.trans ⟨rfl, rfl, rfl, Nat.le_refl _, fun _ _ => rfl⟩⟩
  · have hl1 : decide ((plc nl q : Int) < nl) = false := by simp; omega
    have hr : isLow nl q = false := by
      rw [Bool.eq_false_iff]; simp [isLow]; split at hpe <;> (try split at hpe) <;> omega
    have HB := hide' hB
    have HPE := hide' hpe
    have HR := hide' hr
    clear hpe hB hcall h0 HI hr
    generalize hk : plc nl q = k at *
    have HK := hide' hk
    clear hk
    go_wp2_with fail
    first | go_quiet (fail) | go_region
    all_goals go_wp2_with fail
    all_goals go_ret2
    all_goals exact ⟨by simp [HK.out, HR.out], HB.out.trans ⟨rfl, rfl, rfl, Nat.le_refl _, fun _ _ => rfl⟩⟩
end Go.Proofs.Ybulkcgke
