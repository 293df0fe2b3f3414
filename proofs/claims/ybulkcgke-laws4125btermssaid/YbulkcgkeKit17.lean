import Derived.Test.YbulkcgkeKit16
import Derived.Test.YbulkcgkeKit14
import Derived.Deep.DeepCutAuto
namespace Go.Proofs.Ybulkcgke
set_option linter.unusedSimpArgs false
set_option linter.unusedVariables false
open Go.ChangeShapes Go.WideShapes Go.ChangeAt Go.RowKit Go.Shelf Go.Lib

theorem Nd.kept {w w' : World} {Nb Eb nl nh cl ch wc d s sz : Nat} {p ph pb : Option Addr} {S : Nat → Bool} {phv : ByteArray} (h : Nd w Nb Eb nl nh cl ch wc d s sz p ph pb S phv) (hb : Below w.heap.size w w') : Nd w' Nb Eb nl nh cl ch wc d s sz p ph pb S phv := by
  have c : ∀ i, w'.cell? ⟨Nb, i, none⟩ = w.cell? ⟨Nb, i, none⟩ := fun i => hb.cell (p := ⟨Nb, i, none⟩) h.set.sN
  exact ⟨(c _).trans h.c0, (c _).trans h.c6, (c _).trans h.c14, (c _).trans h.c15, (c _).trans h.c16, (c _).trans h.c17, (c _).trans h.c18, (c _).trans h.c19, (c _).trans h.c20, (c _).trans h.c21, (c _).trans h.c22, h.set.kept hb,
    (hb.cell (p := ⟨Eb, 0, none⟩) h.sE).trans h.log, (hb.frozen (p := ⟨Eb, 0, none⟩) h.sE).trans h.fe, Nat.lt_of_lt_of_le h.sE hb.size, h.ne, fun a ha => ⟨(h.sepP a ha).1, Nat.lt_of_lt_of_le (h.sepP a ha).2 hb.size⟩, h.sepB⟩

theorem fill_calls2 (Nb o nl cap : Nat) (p : Option Addr) (w : World) (h0 : w.cell? ⟨Nb, o, none⟩ = some (.slice none 0 0)) (h1 : w.cell? ⟨Nb, o + 1, none⟩ = some (.slice none 0 0)) (h2 : w.cell? ⟨Nb, o + 2, none⟩ = some (.int .i64 0))
    (fz : ∀ i, w.frozen? ⟨Nb, i, none⟩ = false) (hN : Nb < w.heap.size) (hi : Ids w p nl) (hsep : ∀ a, p = some a → a.block ≠ Nb ∧ a.block < w.heap.size) (hnl : nl ≤ 255) :
    Calls Yba.prog 5 #[.pointer (some ⟨Nb, o, none⟩), .slice p nl cap] w fun e w' => e = .returned (.tuple #[]) ∧ ∃ pb wc, PSet w' Nb o nl cap wc p pb (fun _ => true) nl ∧ (∀ a, pb = some a → w.heap.size ≤ a.block ∧ a.block < w'.heap.size) ∧ Frm w w' Nb o := by
  rcases Nat.eq_zero_or_pos nl with h | h
  · subst h
    refine (fill_zero Nb o cap p w h0 h1 h2 fz hN (fun a ha => (hsep a ha).1)).mono ?_
    rintro e w' ⟨rfl, hp, hf⟩
    exact ⟨rfl, none, 0, hp, fun a ha => (by cases ha), hf⟩
  · refine (fill_calls Nb o nl cap p w h0 h1 h2 fz hN hi hsep hnl).mono ?_
    rintro e w' ⟨rfl, pb, wc, hp, hg, hf⟩
    refine ⟨rfl, pb, wc, hp, fun a ha => ⟨hg a ha, ?_⟩, hf⟩
    subst ha
    obtain ⟨gb, e, _, hgs, _⟩ := hp.bits 0 (by omega)
    cases e
    exact hgs

/-- The member as the law's loops meet it: the call's own blocks lie from B on. -/
structure Md (w0 w : World) (Nb Eb Pb nl nh wc d s : Nat) (ph pb : Option Addr) (phv : ByteArray) : Prop where
  nd : Nd w Nb Eb nl nh nl nh wc d s nl (some ⟨Pb, 0, none⟩) ph pb (fun _ => true) phv
  bel : Below w0.heap.size w0 w
  bN : w0.heap.size ≤ Nb
  bE : w0.heap.size ≤ Eb
  bB : ∀ a, pb = some a → w0.heap.size ≤ a.block ∧ a.block < w.heap.size
  bP : w0.heap.size ≤ Pb

set_option maxHeartbeats 1000000 in
/-- fill, as the law calls it. -/
theorem fill_law (w w1 : World) (Nb Eb Pb nl nh d s : Nat) (ph : Option Addr) (phv : ByteArray) (HA : w.heap.size ≤ Pb ∧ Pb < Eb ∧ Eb < Nb) (HB : Pe w1 Pb nl nh ∧ w1.cell? ⟨Eb, 0, none⟩ = some (.slice none 0 0) ∧ w1.frozen? ⟨Eb, 0, none⟩ = false ∧ Below w.heap.size w w1)
    (h : Nw w1 Nb Pb Eb d (.slice (some ⟨Pb, 0, none⟩) nl nl) (.slice ph nh nh)) (hnl : nl ≤ 255) :
    Calls Yba.prog 5 #[.pointer (some ⟨Nb, 24, none⟩), .slice (some ⟨Pb, 0, none⟩) nl nl] ((w1.setCell ⟨Nb, 21, none⟩ (.int .u64 s)).setCell ⟨Nb, 17, none⟩ (.string phv)).drew fun e w' => e = .returned (.tuple #[]) ∧ ∃ pb wc, Hid (Md w w' Nb Eb Pb nl nh wc d s ph pb phv) := by
  obtain ⟨hPb, hPE, hEN⟩ := HA
  obtain ⟨hpe, hlog, hfe, hbel⟩ := HB
  obtain ⟨W, eW⟩ : ∃ W, W = ((w1.setCell ⟨Nb, 21, none⟩ (.int .u64 s)).setCell ⟨Nb, 17, none⟩ (.string phv)).drew := ⟨_, rfl⟩
  rw [← eW]
  have cW : ∀ i, i ≠ 17 → i ≠ 21 → W.cell? ⟨Nb, i, none⟩ = w1.cell? ⟨Nb, i, none⟩ := fun i h1 h2 => by
    rw [eW]
    show ((w1.setCell ⟨Nb, 21, none⟩ (.int .u64 s)).setCell ⟨Nb, 17, none⟩ (.string phv)).cell? _ = _
    rw [World.cell?_setCell_other _ _ _ _ (by simp <;> omega), World.cell?_setCell_other _ _ _ _ (by simp <;> omega)]
  have c17 : W.cell? ⟨Nb, 17, none⟩ = some (.string phv) := by
    rw [eW]
    exact World.cell?_setCell_same _ _ _ (by rw [World.cell?_setCell_other _ _ _ _ (by simp)]; exact h.c17)
  have c21 : W.cell? ⟨Nb, 21, none⟩ = some (.int .u64 s) := by
    rw [eW]
    show ((w1.setCell ⟨Nb, 21, none⟩ (.int .u64 s)).setCell ⟨Nb, 17, none⟩ (.string phv)).cell? _ = _
    rw [World.cell?_setCell_other _ _ _ _ (by simp)]
    exact World.cell?_setCell_same _ _ _ h.c21
  have fW : ∀ i, W.frozen? ⟨Nb, i, none⟩ = false := fun i => by
    rw [eW]
    show ((w1.setCell ⟨Nb, 21, none⟩ (.int .u64 s)).setCell ⟨Nb, 17, none⟩ (.string phv)).frozen? _ = _
    rw [World.frozen?_setCell, World.frozen?_setCell]; exact h.fz i
  have sW : W.heap.size = w1.heap.size := by rw [eW]; simp
  have bW : ∀ k, k ≠ Nb → W.heap[k]? = w1.heap[k]? := fun k hk => by
    rw [eW]
    show ((w1.setCell ⟨Nb, 21, none⟩ (.int .u64 s)).setCell ⟨Nb, 17, none⟩ (.string phv)).heap[k]? = _
    rw [Below.heap_setCell _ _ _ _ hk, Below.heap_setCell _ _ _ _ hk]
  have bel1 : Below w.heap.size w W := by
    rw [eW]
    exact ((hbel.setCell (p := ⟨Nb, 21, none⟩) (by show w.heap.size ≤ Nb; omega) _).setCell (p := ⟨Nb, 17, none⟩) (by show w.heap.size ≤ Nb; omega) _).drew
  have hsN := h.sN
  have hids : Ids W (some ⟨Pb, 0, none⟩) nl := fun i hi => by
    refine ⟨Pb, 0, rfl, by omega, ?_⟩
    rw [Nat.zero_add, World.cell?_of_block (w := w1) (a := ⟨Pb, i, none⟩) (bW Pb (by omega)), hpe.2 i (by omega), if_pos hi]
  clear eW
  refine (fill_calls2 Nb 24 nl nl (some ⟨Pb, 0, none⟩) W ((cW 24 (by decide) (by decide)).trans h.c24) ((cW 25 (by decide) (by decide)).trans h.c25) ((cW 26 (by decide) (by decide)).trans h.c26) fW (by omega) hids (fun a ha => by cases ha; exact ⟨by show Pb ≠ Nb; omega, by show Pb < _; omega⟩) hnl).mono ?_
  rintro e w2 ⟨rfl, pb, wc, hps, hpb, hfr⟩
  refine ⟨rfl, pb, wc, ⟨?_, bel1.trans (hfr.below _ bel1.size (by omega)), by omega, by omega, fun a ha => ⟨by have := (hpb a ha).1; have := bel1.size; omega, ?_⟩, hPb⟩⟩
  · have cN : ∀ i, i < 24 → w2.cell? ⟨Nb, i, none⟩ = W.cell? ⟨Nb, i, none⟩ := fun i hi => hfr.other ⟨Nb, i, none⟩ (by show Nb < _; omega) (fun _ => ⟨by show i ≠ 24; omega, by show i ≠ 25; omega, by show i ≠ 26; omega⟩)
    have cc : ∀ i, i < 24 → i ≠ 17 → i ≠ 21 → w2.cell? ⟨Nb, i, none⟩ = w1.cell? ⟨Nb, i, none⟩ := fun i h1 h2 h3 => (cN i h1).trans (cW i h2 h3)
    have bE : w2.heap[Eb]? = w1.heap[Eb]? := (hfr.block Eb (by omega) (by omega)).trans (bW Eb (by omega))
    refine ⟨(cc 0 (by decide) (by decide) (by decide)).trans h.c0, (cc 6 (by decide) (by decide) (by decide)).trans h.c6, (cc 14 (by decide) (by decide) (by decide)).trans h.c14, (cc 15 (by decide) (by decide) (by decide)).trans h.c15, (cc 16 (by decide) (by decide) (by decide)).trans h.c16, (cN 17 (by decide)).trans c17, (cc 18 (by decide) (by decide) (by decide)).trans h.c18, (cc 19 (by decide) (by decide) (by decide)).trans h.c19, (cc 20 (by decide) (by decide) (by decide)).trans h.c20, (cN 21 (by decide)).trans c21, (cc 22 (by decide) (by decide) (by decide)).trans h.c22, hps,
      (World.cell?_of_block (a := ⟨Eb, 0, none⟩) bE).trans hlog, (World.frozen?_of_block (a := ⟨Eb, 0, none⟩) bE).trans hfe, by have := hfr.size; omega, by omega, fun a ha => ?_, fun a ha => ?_⟩
    · cases ha
      exact ⟨by show Pb ≠ Eb; omega, by show Pb < _; have := hfr.size; omega⟩
    · have := (hpb a ha).1
      exact ⟨by omega, by omega⟩
  · exact (hpb a ha).2
end Go.Proofs.Ybulkcgke
