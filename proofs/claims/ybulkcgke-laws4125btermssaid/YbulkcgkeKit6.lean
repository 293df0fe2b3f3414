import Derived.Test.YbulkcgkeKit5
namespace Go.Proofs.Ybulkcgke
set_option linter.unusedSimpArgs false
set_option linter.unusedVariables false
open Go.ChangeShapes Go.WideShapes Go.ChangeAt Go.RowKit Go.Shelf Go.Lib

theorem plc_lt (nl : Nat) (q : Int) (h : isLow nl q = true) : plc nl q < nl ∧ (plc nl q : Int) = q + nl := by
  have := plc_eq nl q
  simp [isLow] at h
  split at this <;> (try split at this) <;> constructor <;> omega

set_option maxHeartbeats 1000000 in
/-- (*peerSet).remove of a lower peer. -/
theorem remove_low (Nb o nl cap wc sz : Nat) (p pb : Option Addr) (S : Nat → Bool) (q : Int) (w : World) (hp : PSet w Nb o nl cap wc p pb S sz) (hnl : nl ≤ 255) (hsz : sz ≤ 255) (hq : isLow nl q = true) :
    Calls Yba.prog 10 #[.pointer (some ⟨Nb, o, none⟩), .int .i64 q] w fun e w' => e = .returned (.tuple #[]) ∧
      ∃ w2, Below w.heap.size w w2 ∧ ((S (plc nl q) = false ∧ w' = w2) ∨ (S (plc nl q) = true ∧ ∃ gb v, pb = some ⟨gb, 0, none⟩ ∧ w.cell? ⟨gb, plc nl q / 64, none⟩ = some (.int .u64 (v : Nat)) ∧ v < 18446744073709551616 ∧ w' = (w2.setCell ⟨gb, plc nl q / 64, none⟩ (.int .u64 (Plain.off v (plc nl q % 64) : Nat))).setCell ⟨Nb, o + 2, none⟩ (.int .i64 ((sz : Int) - 1)))) := by
  have hcall := place_calls Nb o nl cap p q w hp.sN hp.c0 hp.ids hnl
  rw [hq] at hcall
  have hk := (plc_lt nl q hq).1
  obtain ⟨gb, rfl, hgN, hgs, hgf, v, hc, hv, hbit⟩ := hp.bits (plc nl q / 64) (by omega)
  have hb := hbit (plc nl q % 64) (by omega)
  rw [show 64 * (plc nl q / 64) + plc nl q % 64 = plc nl q by omega] at hb
  simp only [hk, decide_true, Bool.true_and] at hb
  have hand := Plain.and_bit v (plc nl q % 64) hv (by omega)
  have hnot := Plain.andNot_bit v (plc nl q % 64) hv (by omega)
  rw [hb] at hand
  have hkw : plc nl q / 64 < (nl + 63) / 64 := by omega
  have HP := hide' hp
  generalize hkk : plc nl q = k at *
  have HK := hide' hkk
  clear hkk
  go_enter Yba.func10, Yba.ntmps10
  go_wp2_with fail
  refine hcall.mono ?_
  rintro e w2 ⟨rfl, hB⟩
  have c1 := (hB.cell (p := ⟨Nb, o + 1, none⟩) HP.out.sN).trans HP.out.c1
  have c2 := (hB.cell (p := ⟨Nb, o + 2, none⟩) HP.out.sN).trans HP.out.c2
  have cg := (hB.cell (p := ⟨gb, k / 64, none⟩) hgs).trans hc
  have fN : ∀ i, w2.frozen? ⟨Nb, i, none⟩ = false := fun i => (hB.frozen (p := ⟨Nb, i, none⟩) HP.out.sN).trans (HP.out.fz i)
  have fg : ∀ i, w2.frozen? ⟨gb, i, none⟩ = false := fun i => (hB.frozen (p := ⟨gb, i, none⟩) hgs).trans (hgf i)
  have c2' : ∀ x, (w2.setCell ⟨gb, k / 64, none⟩ x).cell? ⟨Nb, o + 2, none⟩ = some (.int .i64 sz) := fun x => by rw [World.cell?_setCell_other _ _ _ _ (by simp [hgN])]; exact c2
  have HB := hide' hB
  have HC := hide' hc
  clear hp hB hcall hc hbit hb
  cases hS : S k
  · rw [hS] at hand
    go_wp2_with fail
    go_end0
    exact ⟨rfl, w2, HB.out, .inl ⟨hS, rfl⟩⟩
  · rw [hS] at hand
    go_wp2_with fail
    go_end0
    refine ⟨rfl, w2, HB.out, .inr ⟨hS, gb, v, rfl, HC.out, hv, rfl⟩⟩
end Go.Proofs.Ybulkcgke
