import Derived.Test.YbulkcgjqFmtConH
namespace Go.Proofs.YbulkcgjqFmt
set_option linter.unusedSimpArgs false
set_option linter.unusedVariables false
open Go.ChangeShapes Go.WideShapes Go.ChangeAt Go.RowKit Go.Sort

set_option maxRecDepth 20000 in
set_option maxHeartbeats 0 in
theorem conJ : conH.1 := by
  delta conH
  intro B
  set_option tactic.hygienic false in intros
  obtain ⟨st2, hst2⟩ : ∃ st2, st2 = { st' with sides := st'.sides.set y ((x'.e : Int), (x'.f : Int), 1) } := ⟨_, rfl⟩
  rw [← hst2] at H12
  have HST := hide' hst2
  clear hst2
  have z4 : w12.cell? ⟨ay, 4, none⟩ = some (.int .i32 (x.e : Nat)) := HF1.out.cell 4 (by omega)
  have z5 : w12.cell? ⟨ay, 5, none⟩ = some (.int .i32 (x.f : Nat)) := HF1.out.cell 5 (by omega)
  have t4 : w12.cell? ⟨a7, 4, none⟩ = some (.int .i32 (x'.e : Nat)) := HF2.out.cell 4 (by omega)
  have t5 : w12.cell? ⟨a7, 5, none⟩ = some (.int .i32 (x'.f : Nat)) := HF2.out.cell 5 (by omega)
  have f0 := H12.out.rs.ft.cell x'.e (by have := HXB'.out; omega)
  obtain ⟨p', hp'⟩ : ∃ p', p' = 4 * x'.e := ⟨_, rfl⟩
  rw [← hp'] at f0
  have HP' := hide' hp'
  clear hp'
  obtain ⟨y', hy'⟩ : ∃ y', y' = p' + x'.f := ⟨_, rfl⟩
  have hyc' : y' < cap := by have := HP'.out; have := HXB'.out; have := HCAP.out; omega
  have hpe : (x'.e : Int) < (e : Int) + 1 := by have := HXB'.out; omega
  have hwr : IntKind.i32.wrap ((p' : Int) + (x'.f : Int)) = (y' : Int) := by rw [wraps_i32 _ (by omega) (by omega)]; omega
  have HY' := hide' hy'
  clear hy'
  have c1 := H12.out.rs.c1
  have cI := H12.out.rs.c2
  have cz := H12.out.rs.cfz
  have rz := H12.out.rs.rs.fz
  have hxx := H12.out.rs.rs.ex y' (by rw [H12.out.rs.len]; exact hyc')
  obtain ⟨v0, e0⟩ := hxx 0 (by omega)
  have e0 : w12.cell? ⟨sb, y' * 5, none⟩ = some v0 := e0
  obtain ⟨v1, e1⟩ := hxx 1 (by omega)
  obtain ⟨v2, e2⟩ := hxx 2 (by omega)
  obtain ⟨v3, e3⟩ := hxx 3 (by omega)
  obtain ⟨v4, e4⟩ := hxx 4 (by omega)
  clear hxx
  refine wp_region_still_tail 20 rfl (by kernel_rfl) ?_
  change wpStill _ _ w12.drew (fun a' => wpList _ _ _ _ a' w12.drew) _ _
  simp only [List.take_succ_cons, List.take_zero, List.drop_succ_cons, List.drop_zero]
  repeat still_step
  refine wpStill_nil ?_
  go_wp2_with fail
  go_roundg (s - (m + 1))
  case measure => have := HG9.out; omega
  case rel =>
    obtain rfl : st' = st := H2.out.1 HM0.out
    obtain ⟨hs1, f2, hf2⟩ := HTW.out
    have hyy : 4 * x.e + x.f = y := by rw [HY.out, HP.out]
    have hyy' : 4 * x'.e + x'.f = y' := by rw [HY'.out, HP'.out]
    rw [hyy, hyy'] at hf2
    have hbb := (Plain.runsF_mono cn f2 _ _ _ hf2).2
    have hfb := HFIN.out.2
    have hi2 : st2.inn = st'.inn := by rw [HST.out]
    have hbn : wrap64 ((st2.inn : Int) + 1) = ((st2.inn + 1 : Nat) : Int) := by
      have : st'.inn + 1 ≤ fin.inn := hbb
      rw [wraps64_id (by omega) (by omega)]; push_cast; rfl
    have hjj : i + 2 = j := by rw [HJ.out, HS2.out]
    rw [hjj] at hf2
    have hst3 : ({ { st2 with sides := st2.sides.set y' ((x.e : Int), (x.f : Int), 1) } with inn := st2.inn + 1 } : Plain.St) = { sides := (st'.sides.set y ((x'.e : Int), (x'.f : Int), 1)).set y' ((x.e : Int), (x.f : Int), 1), inn := st'.inn + 1, bnd := st'.bnd } := by rw [HST.out]
    rw [← hst3] at hf2
    exact ⟨m + 1, by push_cast; rfl, by omega, rfl, _, (((H12.out.put y' hyc' ((x.e : Int), (x.f : Int), 1)).inn _ hbn).kept ((Below.refl _ _).drew)), fun h => by omega, fun _ => ⟨f2, hf2⟩⟩
/-- Connect over a grid. -/
theorem connect_calls : ConnectSaid := conA.2 (conB.2 (conE.2 (conH.2 conJ)))
end Go.Proofs.YbulkcgjqFmt
