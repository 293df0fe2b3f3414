import Derived.Test.YbulkcgkeKit4
namespace Go.Proofs.Ybulkcgke
set_option linter.unusedSimpArgs false
set_option linter.unusedVariables false
open Go.ChangeShapes Go.WideShapes Go.ChangeAt Go.RowKit Go.Shelf Go.Lib

set_option maxHeartbeats 1000000 in
/-- (*peerSet).remove of what is no lower peer. -/
theorem remove_none (Nb o nl cap wc sz : Nat) (p pb : Option Addr) (S : Nat → Bool) (q : Int) (w : World) (hp : PSet w Nb o nl cap wc p pb S sz) (hnl : nl ≤ 255) (hq : isLow nl q = false) :
    Calls Yba.prog 10 #[.pointer (some ⟨Nb, o, none⟩), .int .i64 q] w fun e w' => e = .returned (.tuple #[]) ∧ Below w.heap.size w w' := by
  have hcall := place_calls Nb o nl cap p q w hp.sN hp.c0 hp.ids hnl
  rw [hq] at hcall
  clear hp
  go_enter Yba.func10, Yba.ntmps10
  go_wp2_with fail
  refine hcall.mono ?_
  rintro e w2 ⟨rfl, hB⟩
  go_wp2_with fail
  refine bodyPost_ret (results_none rfl _ _ _) rfl ?_
  exact ⟨rfl, hB⟩
end Go.Proofs.Ybulkcgke
