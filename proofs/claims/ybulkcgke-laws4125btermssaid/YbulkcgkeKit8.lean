import Derived.Test.YbulkcgkeKit7
import Derived.BigRegion
import Derived.Lib.SliceRun
import Derived.OwnWalk
namespace Go.Proofs.Ybulkcgke
set_option linter.unusedSimpArgs false
set_option linter.unusedVariables false
open Go.ChangeShapes Go.WideShapes Go.ChangeAt Go.RowKit Go.Shelf Go.Lib

theorem info22 : (Yba.prog.info? 22).map (fun i => (i.zero, i.size, i.bytes)) = some (some (.int .u64 0), 1, 8) := by kernel_rfl
def Z64 (n : Nat) : Array Value := madeCells #[.int .u64 0] n
theorem Z64_size (n : Nat) : (Z64 n).size = n := by simp [Z64, madeCells]
theorem Z64_get (n j : Nat) (h : j < n) : (Z64 n)[j]? = some (.int .u64 0) := by
  rw [← Array.getElem?_toList]; unfold Z64; rw [toList_madeCells_one]; simp [h]
theorem mk39 (n : Nat) (hn : n ≤ 1000) (w : World) : (Instr.makeSlice 39 (.int .i64 n) (.int .i64 n)).run Yba.prog w = .ok (.slice (some ⟨w.heap.size, 0, none⟩) n n) (w.alloc (.cells (Z64 n) 22)) := by
  obtain ⟨i, hi, hz0, hz1, hz2⟩ := info_parts info22
  have := run_make (P := Yba.prog) w 39 22 i (.int .u64 0) Yba.underlying39 hi hz0 .i64 .i64 n n (by omega) (by omega) (by rw [hz2]; omega) (by omega)
  rw [hz1] at this
  simpa [Z64, Value.cells] using this

/-- clear of the words. -/
theorem wpList_clr {ops : Array Oper} {rest : List Oper} {o : Oper} {a : Act} {w : World} {Q : Exit → Act → World → Prop} (hgd : o.guard = none) (s : Operand)
    (ho : o.op = .call { callee := .builtin .clear, args := #[s], argTypes := #[39] }) (b n c : Nat) (hs : a.eval s = .slice (some ⟨b, 0, none⟩) n c) (hn : 0 < n)
    (hc : ∀ j, j < n → (w.cell? ⟨b, 0 + j, none⟩).isSome = true) (hf : ∀ j, j < n → w.frozen? ⟨b, 0 + j, none⟩ = false)
    (h : wpList Yba.prog ops Q rest (a.put o.dst (.tuple #[])) (w.setCells b 0 (List.replicate n (.int .u64 0)))) :
    wpList Yba.prog ops Q (o :: rest) a w := by
  refine wpList_plain hgd fun K hK' => ?_
  have hrun : ∀ ty, (Builtin.clear_ #[39] ty #[.slice (some ⟨b, 0, none⟩) n c]).run Yba.prog w = .ok (.tuple #[]) (w.setCells b 0 (List.replicate n (.int .u64 0))) := fun ty =>
    run_clear_slice w 39 22 ty (.int .u64 0) Yba.underlying39 (fun w => by kernel_rfl) rfl rfl b 0 n c hn hc hf
  unfold Oper.wp
  simp [execOp, ho, resolve, invoke, builtin, hs, hrun, Result.andThen]
  exact hK' _ _ h

/-- What fill leaves alone. -/
structure Frm (w w' : World) (Nb o : Nat) : Prop where
  other : ∀ x : Addr, x.block < w.heap.size → (x.block = Nb → x.off ≠ o ∧ x.off ≠ o + 1 ∧ x.off ≠ o + 2) → w'.cell? x = w.cell? x
  frozen : ∀ x : Addr, x.block < w.heap.size → w'.frozen? x = w.frozen? x
  size : w.heap.size ≤ w'.heap.size
  os : w'.os = w.os
  tape : w'.tape = w.tape
  output : w'.output = w.output
  block : ∀ k, k < w.heap.size → k ≠ Nb → w'.heap[k]? = w.heap[k]?
theorem Frm.below {w w' : World} {Nb o : Nat} (h : Frm w w' Nb o) (B : Nat) (hB : B ≤ w.heap.size) (h1 : B ≤ Nb) : Below B w w' :=
  ⟨h.os, h.tape, h.output, h.size, fun k hk => h.block k (by omega) (by omega)⟩

/-- A bit is set. -/
theorem PSet.orBit {w : World} {Nb o nl cap wc sz gb i v : Nat} {p : Option Addr} {S : Nat → Bool} (hp : PSet w Nb o nl cap wc p (some ⟨gb, 0, none⟩) S sz) (hi : i < nl)
    (hv : w.cell? ⟨gb, i / 64, none⟩ = some (.int .u64 (v : Nat))) :
    PSet (w.setCell ⟨gb, i / 64, none⟩ (.int .u64 ((v ||| 2 ^ (i % 64) : Nat) : Int))) Nb o nl cap wc p (some ⟨gb, 0, none⟩) (fun j => S j || decide (j = i)) sz := by
  obtain ⟨gb', eg, g1, g2, g3, v', g4, g5, g6⟩ := hp.bits (i / 64) (by omega)
  cases eg
  rw [hv] at g4
  obtain rfl : v = v' := by
    have := Option.some.inj g4
    simp at this
    omega
  have hsep := hp.sep
  have cNb : ∀ k, (w.setCell ⟨gb, i / 64, none⟩ (.int .u64 ((v ||| 2 ^ (i % 64) : Nat) : Int))).cell? ⟨Nb, k, none⟩ = w.cell? ⟨Nb, k, none⟩ := fun k => by
    rw [World.cell?_setCell_other _ _ _ _ (by simp [g1])]
  refine ⟨(cNb _).trans hp.c0, (cNb _).trans hp.c1, (cNb _).trans hp.c2, ?_, ?_, fun k => by rw [World.frozen?_setCell]; exact hp.fz k, by simpa using hp.sN, hp.sep⟩
  · intro k hk
    obtain ⟨blk, off, rfl, h1, h2⟩ := hp.ids k hk
    have hse := hsep _ rfl
    refine ⟨blk, off, rfl, by simpa using h1, ?_⟩
    rw [World.cell?_setCell_other _ _ _ _ (by have := hse.2 _ rfl; simp [Ne.symm this])]
    exact h2
  · intro k hk'
    obtain ⟨gb2, eg, b1, b2, b3, v2, b4, b5, b6⟩ := hp.bits k hk'
    cases eg
    refine ⟨gb, rfl, b1, by simpa using b2, fun j => by rw [World.frozen?_setCell]; exact b3 j, ?_⟩
    have hor := Plain.or_bit v (i % 64) g5 (by omega)
    by_cases hkk : k = i / 64
    · subst hkk
      rw [World.cell?_setCell_same _ _ _ hv]
      refine ⟨_, rfl, hor.2.1, fun j hj => ?_⟩
      rw [hor.2.2 j, g6 j hj]
      by_cases hjj : i % 64 = j
      · have : 64 * (i / 64) + j = i := by omega
        simp [hjj, this, hi]
      · have : ¬ (64 * (i / 64) + j = i) := by omega
        simp [hjj, this]
    · rw [World.cell?_setCell_other _ _ _ _ (by simp [Ne.symm hkk])]
      refine ⟨v2, b4, b5, fun j hj => ?_⟩
      rw [b6 j hj]
      have : ¬ (64 * k + j = i) := by omega
      simp [this]
end Go.Proofs.Ybulkcgke
