import Derived.Test.YbulkcgkeKit3
import Derived.Test.YbulkcgkePlain
namespace Go.Proofs.Ybulkcgke
set_option linter.unusedSimpArgs false
set_option linter.unusedVariables false
open Go.ChangeShapes Go.WideShapes Go.ChangeAt Go.RowKit Go.Shelf Go.Lib

/-- The bits' row behind pb: bit j of word k says whether place 64k+j is still in the set. -/
def Bits (w : World) (Nb : Nat) (pb : Option Addr) (nl : Nat) (S : Nat → Bool) : Prop :=
  ∀ k, k < (nl + 63) / 64 → ∃ gb, pb = some ⟨gb, 0, none⟩ ∧ gb ≠ Nb ∧ gb < w.heap.size ∧ (∀ i, w.frozen? ⟨gb, i, none⟩ = false) ∧ ∃ v : Nat, w.cell? ⟨gb, k, none⟩ = some (.int .u64 v) ∧ v < 18446744073709551616 ∧ ∀ j, j < 64 → v.testBit j = (decide (64 * k + j < nl) && S (64 * k + j))

/-- The peer set at ⟨Nb, o⟩. -/
structure PSet (w : World) (Nb o nl cap wc : Nat) (p pb : Option Addr) (S : Nat → Bool) (sz : Nat) : Prop where
  c0 : w.cell? ⟨Nb, o, none⟩ = some (.slice p nl cap)
  c1 : w.cell? ⟨Nb, o + 1, none⟩ = some (.slice pb ((nl + 63) / 64) wc)
  c2 : w.cell? ⟨Nb, o + 2, none⟩ = some (.int .i64 sz)
  ids : Ids w p nl
  bits : Bits w Nb pb nl S
  fz : ∀ i, w.frozen? ⟨Nb, i, none⟩ = false
  sN : Nb < w.heap.size
  sep : ∀ a, p = some a → a.block ≠ Nb ∧ ∀ b, pb = some b → a.block ≠ b.block

/-- Nothing but the set's own cells is touched. -/
structure Only (w w' : World) (Nb o : Nat) (pb : Option Addr) : Prop where
  other : ∀ x : Addr, x.block < w.heap.size → (x.block = Nb → x.off ≠ o + 2) → (∀ a, pb = some a → x.block ≠ a.block) → w'.cell? x = w.cell? x
  frozen : ∀ x : Addr, x.block < w.heap.size → w'.frozen? x = w.frozen? x
  size : w.heap.size ≤ w'.heap.size
  os : w'.os = w.os
  tape : w'.tape = w.tape
  output : w'.output = w.output
  block : ∀ k, k < w.heap.size → k ≠ Nb → (∀ a, pb = some a → k ≠ a.block) → w'.heap[k]? = w.heap[k]?
theorem Only.below {w w' : World} {Nb o : Nat} {pb : Option Addr} (h : Only w w' Nb o pb) (B : Nat) (hB : B ≤ w.heap.size) (h1 : B ≤ Nb) (h2 : ∀ a, pb = some a → B ≤ a.block) : Below B w w' :=
  ⟨h.os, h.tape, h.output, h.size, fun k hk => h.block k (by omega) (by omega) (fun a ha => by have := h2 a ha; omega)⟩
end Go.Proofs.Ybulkcgke
