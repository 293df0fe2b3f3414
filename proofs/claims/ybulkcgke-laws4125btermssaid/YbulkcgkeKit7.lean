import Derived.Test.YbulkcgkeKit6
namespace Go.Proofs.Ybulkcgke
set_option linter.unusedSimpArgs false
set_option linter.unusedVariables false
open Go.ChangeShapes Go.WideShapes Go.ChangeAt Go.RowKit Go.Shelf Go.Lib

theorem Ids.kept {w w' : World} {p : Option Addr} {nl : Nat} (h : Ids w p nl) (hc : ∀ a, p = some a → ∀ i, w'.cell? ⟨a.block, a.off + i, none⟩ = w.cell? ⟨a.block, a.off + i, none⟩) (hs : w.heap.size ≤ w'.heap.size) : Ids w' p nl := fun i hi => by
  obtain ⟨blk, off, rfl, hb, hx⟩ := h i hi
  exact ⟨blk, off, rfl, by omega, (hc _ rfl i).trans hx⟩

/-- The set behind a change that leaves the set's cells alone. -/
theorem PSet.kept {w w' : World} {Nb o nl cap wc sz : Nat} {p pb : Option Addr} {S : Nat → Bool} (h : PSet w Nb o nl cap wc p pb S sz) (hb : Below w.heap.size w w') : PSet w' Nb o nl cap wc p pb S sz := by
  refine ⟨(hb.cell (p := ⟨Nb, o, none⟩) h.sN).trans h.c0, (hb.cell (p := ⟨Nb, o + 1, none⟩) h.sN).trans h.c1, (hb.cell (p := ⟨Nb, o + 2, none⟩) h.sN).trans h.c2, ?_, ?_, fun i => (hb.frozen (p := ⟨Nb, i, none⟩) h.sN).trans (h.fz i), Nat.lt_of_lt_of_le h.sN hb.size, h.sep⟩
  · intro i hi
    obtain ⟨blk, off, e, h1, h2⟩ := h.ids i hi
    exact ⟨blk, off, e, Nat.lt_of_lt_of_le h1 hb.size, (hb.cell (p := ⟨blk, off + i, none⟩) h1).trans h2⟩
  · intro k hk
    obtain ⟨gb, e, h1, h2, h3, v, h4, h5, h6⟩ := h.bits k hk
    exact ⟨gb, e, h1, Nat.lt_of_lt_of_le h2 hb.size, fun i => (hb.frozen (p := ⟨gb, i, none⟩) h2).trans (h3 i), v, (hb.cell (p := ⟨gb, k, none⟩) h2).trans h4, h5, h6⟩

def rem1 (nl : Nat) (S : Nat → Bool) (q : Int) : Nat → Bool := fun i => S i && !(isLow nl q && decide (i = plc nl q))
def hit (nl : Nat) (S : Nat → Bool) (q : Int) : Bool := isLow nl q && S (plc nl q)

/-- (*peerSet).remove. -/
theorem remove_calls (Nb o nl cap wc sz : Nat) (p pb : Option Addr) (S : Nat → Bool) (q : Int) (w : World) (hp : PSet w Nb o nl cap wc p pb S sz) (hnl : nl ≤ 255) (hsz : sz ≤ 255) (hpos : hit nl S q = true → 1 ≤ sz) :
    Calls Yba.prog 10 #[.pointer (some ⟨Nb, o, none⟩), .int .i64 q] w fun e w' => e = .returned (.tuple #[]) ∧ PSet w' Nb o nl cap wc p pb (rem1 nl S q) (if hit nl S q then sz - 1 else sz) ∧ Only w w' Nb o pb := by
  cases hq : isLow nl q
  · have e1 : rem1 nl S q = S := by funext i; simp [rem1, hq]
    have e2 : hit nl S q = false := by simp [hit, hq]
    rw [e1, e2]
    refine (remove_none Nb o nl cap wc sz p pb S q w hp hnl hq).mono ?_
    rintro e w' ⟨rfl, hb⟩
    exact ⟨rfl, hp.kept hb, fun x h1 _ _ => hb.cell h1, fun x h1 => hb.frozen h1, hb.size, hb.os, hb.tape, hb.output, fun k hk _ _ => hb.block k hk⟩
  · refine (remove_low Nb o nl cap wc sz p pb S q w hp hnl hsz hq).mono ?_
    rintro e w' ⟨rfl, w2, hb, ⟨hS, rfl⟩ | ⟨hS, gb, v, rfl, hc, hv, rfl⟩⟩
    · have e1 : rem1 nl S q = S := by
        funext i; simp only [rem1, hq, Bool.true_and]
        by_cases h : i = plc nl q
        · subst h; simp [hS]
        · simp [h]
      have e2 : hit nl S q = false := by simp [hit, hq, hS]
      rw [e1, e2]
      exact ⟨rfl, hp.kept hb, fun x h1 _ _ => hb.cell h1, fun x h1 => hb.frozen h1, hb.size, hb.os, hb.tape, hb.output, fun k hk _ _ => hb.block k hk⟩
    · have e2 : hit nl S q = true := by simp [hit, hq, hS]
      rw [e2]
      have hk := (plc_lt nl q hq).1
      have hp2 := hp.kept hb
      obtain ⟨gb', eg, g1, g2, g3, v', g4, g5, g6⟩ := hp.bits (plc nl q / 64) (by omega)
      cases eg
      rw [hc] at g4
      obtain rfl : v = v' := by
        have := Option.some.inj g4
        simp at this
        omega
      have hsep := hp.sep
      have hz1 := hpos e2
      have cNb : ∀ i, i ≠ o + 2 → ((w2.setCell ⟨gb, plc nl q / 64, none⟩ (.int .u64 (Plain.off v (plc nl q % 64) : Nat))).setCell ⟨Nb, o + 2, none⟩ (.int .i64 ((sz : Int) - 1))).cell? ⟨Nb, i, none⟩ = w2.cell? ⟨Nb, i, none⟩ := fun i hi => by
        rw [World.cell?_setCell_other _ _ _ _ (by simp [Ne.symm hi]), World.cell?_setCell_other _ _ _ _ (by simp [g1])]
      have fr : ∀ x, ((w2.setCell ⟨gb, plc nl q / 64, none⟩ (.int .u64 (Plain.off v (plc nl q % 64) : Nat))).setCell ⟨Nb, o + 2, none⟩ (.int .i64 ((sz : Int) - 1))).frozen? x = w2.frozen? x := fun x => by rw [World.frozen?_setCell, World.frozen?_setCell]
      have sze : ((w2.setCell ⟨gb, plc nl q / 64, none⟩ (.int .u64 (Plain.off v (plc nl q % 64) : Nat))).setCell ⟨Nb, o + 2, none⟩ (.int .i64 ((sz : Int) - 1))).heap.size = w2.heap.size := by simp
      have cg : w2.cell? ⟨gb, plc nl q / 64, none⟩ = some (.int .u64 v) := (hb.cell (p := ⟨gb, plc nl q / 64, none⟩) g2).trans hc
      refine ⟨rfl, ⟨(cNb o (by omega)).trans hp2.c0, (cNb (o + 1) (by omega)).trans hp2.c1, ?_, ?_, ?_, fun i => (fr _).trans (hp2.fz i), by rw [sze]; exact hp2.sN, hp.sep⟩, ⟨?_, ?_, by rw [sze]; exact hb.size, hb.os, hb.tape, hb.output, fun k hk hN hg => (Below.heap_setCell _ _ _ k hN).trans ((Below.heap_setCell w2 ⟨gb, plc nl q / 64, none⟩ _ k (hg ⟨gb, 0, none⟩ rfl)).trans (hb.block k hk))⟩⟩
      · have : (w2.setCell ⟨gb, plc nl q / 64, none⟩ (.int .u64 (Plain.off v (plc nl q % 64) : Nat))).cell? ⟨Nb, o + 2, none⟩ = some (.int .i64 sz) := by rw [World.cell?_setCell_other _ _ _ _ (by simp [g1])]; exact hp2.c2
        rw [World.cell?_setCell_same _ _ _ this]
        simp; omega
      · intro i hi
        obtain ⟨blk, off, rfl, h1, h2⟩ := hp2.ids i hi
        have hse := hsep _ rfl
        refine ⟨blk, off, rfl, by rw [sze]; exact h1, ?_⟩
        rw [World.cell?_setCell_other _ _ _ _ (by simp [Ne.symm hse.1]), World.cell?_setCell_other _ _ _ _ (by have := hse.2 _ rfl; simp [Ne.symm this])]
        exact h2
      · intro k hk'
        obtain ⟨gb2, eg, b1, b2, b3, v2, b4, b5, b6⟩ := hp2.bits k hk'
        cases eg
        refine ⟨gb, rfl, b1, by rw [sze]; exact b2, fun i => (fr _).trans (b3 i), ?_⟩
        rw [World.cell?_setCell_other _ _ _ _ (by simp [Ne.symm b1])]
        by_cases hkk : k = plc nl q / 64
        · subst hkk
          rw [World.cell?_setCell_same _ _ _ cg]
          refine ⟨Plain.off v (plc nl q % 64), rfl, Plain.off_lt _ _, fun j hj => ?_⟩
          rw [Plain.off_bit v _ j hv (by omega) hj, g6 j hj]
          simp only [rem1, hq, Bool.true_and]
          by_cases hjj : plc nl q % 64 = j
          · have : 64 * (plc nl q / 64) + j = plc nl q := by omega
            simp [hjj, this]
          · have : ¬ (64 * (plc nl q / 64) + j = plc nl q) := by omega
            simp [hjj, this]
        · rw [World.cell?_setCell_other _ _ _ _ (by simp [Ne.symm hkk])]
          refine ⟨v2, b4, b5, fun j hj => ?_⟩
          rw [b6 j hj]
          simp only [rem1, hq, Bool.true_and]
          have : ¬ (64 * k + j = plc nl q) := by omega
          simp [this]
      · intro x h1 h2 h3
        have h4 := h3 _ rfl
        rw [World.cell?_setCell_other _ _ _ _ (by intro e; subst e; exact h2 rfl rfl), World.cell?_setCell_other _ _ _ _ (by intro e; subst e; exact h4 rfl)]
        exact hb.cell h1
      · intro x h1
        exact (fr x).trans (hb.frozen h1)
end Go.Proofs.Ybulkcgke
