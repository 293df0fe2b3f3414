import Derived.Test.YbulkcgkeKit8
namespace Go.Proofs.Ybulkcgke
set_option linter.unusedSimpArgs false
set_option linter.unusedVariables false
open Go.ChangeShapes Go.WideShapes Go.ChangeAt Go.RowKit Go.Shelf Go.Lib

theorem heap_setCells (b : Nat) : ∀ (vs : List Value) (o : Nat) (w : World) (k : Nat), k ≠ b → (w.setCells b o vs).heap[k]? = w.heap[k]?
  | [], o, w, k, h => rfl
  | v :: vs, o, w, k, h => by
    show ((w.setCell ⟨b, o, none⟩ v).setCells b (o + 1) vs).heap[k]? = _
    rw [heap_setCells b vs _ _ k h, Below.heap_setCell _ _ _ _ h]
theorem size_setCells (b : Nat) : ∀ (vs : List Value) (o : Nat) (w : World), (w.setCells b o vs).heap.size = w.heap.size
  | [], o, w => rfl
  | v :: vs, o, w => by
    show ((w.setCell ⟨b, o, none⟩ v).setCells b (o + 1) vs).heap.size = _
    rw [size_setCells b vs _ _]; simp
theorem str_setCells (b : Nat) : ∀ (vs : List Value) (o : Nat) (w : World), (w.setCells b o vs).os = w.os ∧ (w.setCells b o vs).tape = w.tape ∧ (w.setCells b o vs).output = w.output
  | [], o, w => ⟨rfl, rfl, rfl⟩
  | v :: vs, o, w => by
    show ((w.setCell ⟨b, o, none⟩ v).setCells b (o + 1) vs).os = _ ∧ ((w.setCell ⟨b, o, none⟩ v).setCells b (o + 1) vs).tape = _ ∧ ((w.setCell ⟨b, o, none⟩ v).setCells b (o + 1) vs).output = _
    obtain ⟨h1, h2, h3⟩ := str_setCells b vs (o + 1) (w.setCell ⟨b, o, none⟩ v)
    exact ⟨h1, h2, h3⟩

/-- The set as the loop of fill meets it. -/
theorem fill_start (Nb o nl cap k : Nat) (p : Option Addr) (va : Value) (w : World) (h0 : w.cell? ⟨Nb, o, none⟩ = some (.slice none 0 0)) (h1 : w.cell? ⟨Nb, o + 1, none⟩ = some (.slice none 0 0)) (h2 : w.cell? ⟨Nb, o + 2, none⟩ = some (.int .i64 0))
    (fz : ∀ i, w.frozen? ⟨Nb, i, none⟩ = false) (hN : Nb < w.heap.size) (hi : Ids w p nl) (hsep : ∀ a, p = some a → a.block ≠ Nb ∧ a.block < w.heap.size) (hk : k = (nl + 63) / 64) (W0 W1 W : World)
    (e0 : W0 = (((w.setCell ⟨Nb, o + 1, none⟩ va).setCell ⟨Nb, o, none⟩ (.slice p nl cap)).setCell ⟨Nb, o + 1, none⟩ (.slice (some ⟨w.heap.size, 0, none⟩) k k)).setCell ⟨Nb, o + 2, none⟩ (.int .i64 nl))
    (e1 : W1 = (W0.alloc (.cells (Z64 k) 22)).drew) (e2 : W = W1.setCells w.heap.size 0 (List.replicate k (.int .u64 0))) :
    PSet W Nb o nl cap k p (some ⟨w.heap.size, 0, none⟩) (fun j => decide (j < 0)) nl ∧ Frm w W Nb o ∧ (∀ j, j < k → (W1.cell? ⟨w.heap.size, 0 + j, none⟩).isSome = true) ∧ (∀ j, j < k → W1.frozen? ⟨w.heap.size, 0 + j, none⟩ = false) := by
  have s0 : W0.heap.size = w.heap.size := by rw [e0]; simp
  have s1 : W1.heap.size = w.heap.size + 1 := by rw [e1]; simp [s0]
  have s2 : W.heap.size = w.heap.size + 1 := by rw [e2, size_setCells, s1]
  have b0 : ∀ b, b ≠ Nb → W0.heap[b]? = w.heap[b]? := fun b hb => by
    rw [e0, Below.heap_setCell _ _ _ _ hb, Below.heap_setCell _ _ _ _ hb, Below.heap_setCell _ _ _ _ hb, Below.heap_setCell _ _ _ _ hb]
  have b1 : ∀ b, b < w.heap.size → W1.heap[b]? = W0.heap[b]? := fun b hb => by
    rw [e1]; exact Below.heap_alloc _ _ _ (by omega)
  have b2 : ∀ b, b ≠ w.heap.size → W.heap[b]? = W1.heap[b]? := fun b hb => by rw [e2, heap_setCells _ _ _ _ _ hb]
  have b02 : ∀ b, b < w.heap.size → W.heap[b]? = W0.heap[b]? := fun b hb => (b2 b (by omega)).trans (b1 b hb)
  have n1 : W1.heap[w.heap.size]? = some (.cells (Z64 k) 22) := by rw [e1, ← s0]; exact heap_alloc_new W0 _
  have cz : ∀ j, j < k → W1.cell? ⟨w.heap.size, 0 + j, none⟩ = some (.int .u64 0) := fun j hj => by
    simp only [World.cell?]; rw [n1]; simp only [Nat.zero_add]; exact Z64_get k j hj
  have cN : ∀ i, W.cell? ⟨Nb, i, none⟩ = W0.cell? ⟨Nb, i, none⟩ := fun i => World.cell?_of_block (b02 Nb hN)
  have f0 : ∀ x, W0.frozen? x = w.frozen? x := fun x => by rw [e0]; simp
  have fr : ∀ x : Addr, x.block < w.heap.size → W.frozen? x = w.frozen? x := fun x hx => (World.frozen?_of_block (b02 x.block hx)).trans (f0 x)
  have f1 : ∀ j, W1.frozen? ⟨w.heap.size, j, none⟩ = false := fun j => by
    simp only [World.frozen?]; rw [n1]; simp
  have c0 : W0.cell? ⟨Nb, o, none⟩ = some (.slice p nl cap) := by
    rw [e0, World.cell?_setCell_other _ _ _ _ (by simp), World.cell?_setCell_other _ _ _ _ (by simp)]
    exact World.cell?_setCell_same _ _ _ (by rw [World.cell?_setCell_other _ _ _ _ (by simp)]; exact h0)
  have c1 : W0.cell? ⟨Nb, o + 1, none⟩ = some (.slice (some ⟨w.heap.size, 0, none⟩) k k) := by
    rw [e0, World.cell?_setCell_other _ _ _ _ (by simp)]
    exact World.cell?_setCell_same _ _ _ (by rw [World.cell?_setCell_other _ _ _ _ (by simp)]; exact World.cell?_setCell_same _ _ _ h1)
  have c2 : W0.cell? ⟨Nb, o + 2, none⟩ = some (.int .i64 nl) := by
    rw [e0]
    exact World.cell?_setCell_same _ _ _ (by rw [World.cell?_setCell_other _ _ _ _ (by simp), World.cell?_setCell_other _ _ _ _ (by simp), World.cell?_setCell_other _ _ _ _ (by simp)]; exact h2)
  refine ⟨⟨(cN _).trans c0, by rw [(cN _), c1, hk], (cN _).trans c2, ?_, ?_, fun i => (fr _ hN).trans (fz i), by omega, ?_⟩, ⟨?_, fr, by omega, ?_, ?_, ?_, fun b hb hbN => (b02 b hb).trans (b0 b hbN)⟩, fun j hj => by rw [cz j hj]; rfl, fun j hj => f1 _⟩
  · intro i hii
    obtain ⟨blk, off, rfl, hb, hc⟩ := hi i hii
    have := (hsep _ rfl).1
    refine ⟨blk, off, rfl, by omega, ?_⟩
    rw [World.cell?_of_block (w := w) (a := ⟨blk, off + i, none⟩) ((b02 blk hb).trans (b0 blk this))]; exact hc
  · intro j hj
    refine ⟨w.heap.size, rfl, by omega, by omega, fun i => by rw [e2, World.frozen?_setCells]; exact f1 i, 0, ?_, by decide, fun i hi' => by simp⟩
    have := World.cell?_setCells_in w.heap.size (List.replicate k (.int .u64 0)) 0 W1 (fun j hj => by rw [cz j (by simpa using hj)]; rfl) j (by simp; omega)
    rw [e2]
    simpa using this
  · intro a ha
    refine ⟨(hsep a ha).1, fun b hb => ?_⟩
    cases hb
    have := (hsep a ha).2
    show a.block ≠ w.heap.size
    omega
  · intro x hx hxN
    by_cases hb : x.block = Nb
    · obtain ⟨g0, g1, g2⟩ := hxN hb
      rw [World.cell?_of_block (w := W0) (b02 x.block hx), e0, World.cell?_setCell_other _ _ _ _ (by intro e; subst e; exact g2 rfl), World.cell?_setCell_other _ _ _ _ (by intro e; subst e; exact g1 rfl), World.cell?_setCell_other _ _ _ _ (by intro e; subst e; exact g0 rfl), World.cell?_setCell_other _ _ _ _ (by intro e; subst e; exact g1 rfl)]
    · exact World.cell?_of_block ((b02 x.block hx).trans (b0 _ hb))
  · rw [e2, (str_setCells _ _ _ _).1, e1, e0]; rfl
  · rw [e2, (str_setCells _ _ _ _).2.1, e1, e0]; rfl
  · rw [e2, (str_setCells _ _ _ _).2.2, e1, e0]; rfl

theorem PSet.cong {w : World} {Nb o nl cap wc sz : Nat} {p pb : Option Addr} {S S' : Nat → Bool} (h : PSet w Nb o nl cap wc p pb S sz) (hS : ∀ j, j < nl → S j = S' j) : PSet w Nb o nl cap wc p pb S' sz := by
  refine ⟨h.c0, h.c1, h.c2, h.ids, ?_, h.fz, h.sN, h.sep⟩
  intro k hk
  obtain ⟨gb, e, h1, h2, h3, v, h4, h5, h6⟩ := h.bits k hk
  refine ⟨gb, e, h1, h2, h3, v, h4, h5, fun j hj => ?_⟩
  rw [h6 j hj]
  by_cases hl : 64 * k + j < nl
  · rw [hS _ hl]
  · simp [hl]
theorem PSet.drew {w : World} {Nb o nl cap wc sz : Nat} {p pb : Option Addr} {S : Nat → Bool} (h : PSet w Nb o nl cap wc p pb S sz) : PSet w.drew Nb o nl cap wc p pb S sz := h.kept (Below.refl _ _).drew
theorem Frm.setGb {w wr : World} {Nb o gb i : Nat} {v : Value} (h : Frm w wr Nb o) (hg : gb ≠ Nb) (hgs : w.heap.size ≤ gb) : Frm w (wr.setCell ⟨gb, i, none⟩ v).drew Nb o := by
  have b : ∀ k, k < w.heap.size → (wr.setCell ⟨gb, i, none⟩ v).drew.heap[k]? = wr.heap[k]? := fun k hk => Below.heap_setCell wr ⟨gb, i, none⟩ v k (by show k ≠ gb; omega)
  refine ⟨fun x hx hxx => (World.cell?_of_block (b _ hx)).trans (h.other x hx hxx), fun x hx => (World.frozen?_of_block (b _ hx)).trans (h.frozen x hx), ?_, h.os, h.tape, h.output, fun k hk hkN => (b k hk).trans (h.block k hk hkN)⟩
  have := h.size
  simpa using this

set_option maxRecDepth 10000 in
set_option maxHeartbeats 400000 in
theorem fill_pos (Nb o nl cap : Nat) (p : Option Addr) (w : World) (h0 : w.cell? ⟨Nb, o, none⟩ = some (.slice none 0 0)) (h1 : w.cell? ⟨Nb, o + 1, none⟩ = some (.slice none 0 0)) (h2 : w.cell? ⟨Nb, o + 2, none⟩ = some (.int .i64 0))
    (fz : ∀ i, w.frozen? ⟨Nb, i, none⟩ = false) (hN : Nb < w.heap.size) (hi : Ids w p nl) (hsep : ∀ a, p = some a → a.block ≠ Nb ∧ a.block < w.heap.size) (hnl : nl ≤ 255) (hpos : 0 < nl) :
    Calls Yba.prog 5 #[.pointer (some ⟨Nb, o, none⟩), .slice p nl cap] w fun e w' => e = .returned (.tuple #[]) ∧ ∃ pb wc, PSet w' Nb o nl cap wc p pb (fun _ => true) nl ∧ (∀ a, pb = some a → w.heap.size ≤ a.block) ∧ Frm w w' Nb o := by
  have HI := hide' hi
  have HSEP := hide' hsep
  have hk0 : wrap64 ((wrap64 ((nl : Int) + 63)).tdiv 64) = (((nl + 63) / 64 : Nat) : Int) := by
    have e1 : wrap64 ((nl : Int) + 63) = (nl : Int) + 63 := by unfold wrap64; omega
    rw [e1, Int.tdiv_eq_ediv_of_nonneg (by omega)]; unfold wrap64; omega
  have hk5 : 0 < (nl + 63) / 64 := by omega
  have hk6 : (nl + 63) / 64 ≤ 4 := by omega
  obtain ⟨k, hk⟩ : ∃ k, k = (nl + 63) / 64 := ⟨_, rfl⟩
  rw [← hk] at hk0 hk5 hk6
  have hk2 : decide ((0 : Int) < (k : Int)) = true := by simp; omega
  have hmk := mk39 k (by omega)
  have HNL := hide' hnl
  have HK := hide' hk
  have HK5 := hide' hk5
  have HK6 := hide' hk6
  have HPOS := hide' hpos
  have hNs : ¬ (Nb = w.heap.size) := by omega
  clear hi hsep hnl hk hk5 hk6 hpos
  go_enter Yba.func5, Yba.ntmps5
  go_wp2_with fail
  go_region
  go_wp2_with fail
  rw [run_clear_slice _ 39 22 0 (.int .u64 0) Yba.underlying39 (fun w => by kernel_rfl) rfl rfl w.heap.size 0 k k HK5.out ?hc ?hf]
  case hc => exact (fill_start Nb o nl cap k p _ w h0 h1 h2 fz hN HI.out HSEP.out HK.out _ _ _ rfl rfl rfl).2.2.1
  case hf => exact (fill_start Nb o nl cap k p _ w h0 h1 h2 fz hN HI.out HSEP.out HK.out _ _ _ rfl rfl rfl).2.2.2
  go_wp2_with fail
  have HS := hide' (fill_start Nb o nl cap k p (.slice (some ⟨w.heap.size, 0, none⟩) k k) w h0 h1 h2 fz hN HI.out HSEP.out HK.out _ _ _ rfl rfl rfl)
  go_loopg [46] nl (fun g s46 wr => ∃ i : Nat, s46 = .int .i64 i ∧ i ≤ nl ∧ g = nl - i ∧ Hid (PSet wr Nb o nl cap k p (some ⟨w.heap.size, 0, none⟩) (fun j => decide (j < i)) nl ∧ Frm w wr Nb o))
  case atStart => exact ⟨0, rfl, by omega, by omega, HS.out.1, HS.out.2.1⟩
  case round =>
    obtain ⟨i, rfl, hil, hg, HP⟩ := hrel
    clear HS
    have HG := hide' hg
    have HIL := hide' hil
    clear hg
    by_cases hlt : i < nl
    · have hlt2 : decide ((i : Int) < nl) = true := by simp; omega
      go_wp2_with fail
      have hp := HP.out.1
      have hik : i / 64 < k := by have := HK.out; omega
      obtain ⟨gb, eg, hgN, hgs, hgf, v, hc, hv, hbit⟩ := hp.bits (i / 64) (by have := HK.out; omega)
      cases eg
      have c1 := hp.c1
      rw [← HK.out] at c1
      have hor := (Plain.or_bit v (i % 64) hv (by omega)).1
      have HV := hide' hv
      clear hbit hv hgs hmk h0 h1 h2 hp
      generalize hgbe : w.heap.size = gb at *
      have HGB := hide' hgbe
      clear hgbe
      have hi255 : i ≤ 255 := by have := HNL.out; omega
      go_region
      go_wp2_with fail
      go_roundg (nl - (i + 1))
      case measure => have := HG.out; omega
      case rel =>
        refine ⟨i + 1, by push_cast; rfl, by omega, rfl, ?_, ?_⟩
        · refine (HP.out.1.orBit hlt hc).drew.cong fun j hj => ?_
          rw [Bool.eq_iff_iff]; simp only [Bool.or_eq_true, decide_eq_true_eq]; omega
        · exact HP.out.2.setGb (by omega) (by have := HGB.out; omega)
    · have hlt2 : decide ((i : Int) < nl) = false := by simp; omega
      go_wp2_with fail
      go_end0
      refine ⟨rfl, _, _, HP.out.1.cong fun j hj => ?_, fun a ha => by cases ha; exact Nat.le_refl _, HP.out.2⟩
      simp; omega

theorem clr0 (w : World) : (Builtin.clear_ #[39] 0 #[Value.slice none 0 0]).run Yba.prog w = .ok (.tuple #[]) w := by
  simp [Builtin.clear_, run_underlying Yba.underlying39]
theorem fill_start0 (Nb o cap : Nat) (p : Option Addr) (w : World) (h0 : w.cell? ⟨Nb, o, none⟩ = some (.slice none 0 0)) (h1 : w.cell? ⟨Nb, o + 1, none⟩ = some (.slice none 0 0)) (h2 : w.cell? ⟨Nb, o + 2, none⟩ = some (.int .i64 0))
    (fz : ∀ i, w.frozen? ⟨Nb, i, none⟩ = false) (hN : Nb < w.heap.size) (hsep : ∀ a, p = some a → a.block ≠ Nb) (W : World)
    (e0 : W = (((w.setCell ⟨Nb, o, none⟩ (.slice p 0 cap)).setCell ⟨Nb, o + 1, none⟩ (.slice none 0 0)).setCell ⟨Nb, o + 2, none⟩ (.int .i64 0)).drew) :
    PSet W Nb o 0 cap 0 p none (fun _ => true) 0 ∧ Frm w W Nb o := by
  have b0 : ∀ b, b ≠ Nb → W.heap[b]? = w.heap[b]? := fun b hb => by
    rw [e0]
    show (((w.setCell ⟨Nb, o, none⟩ (.slice p 0 cap)).setCell ⟨Nb, o + 1, none⟩ (.slice none 0 0)).setCell ⟨Nb, o + 2, none⟩ (.int .i64 0)).heap[b]? = _
    rw [Below.heap_setCell _ _ _ _ hb, Below.heap_setCell _ _ _ _ hb, Below.heap_setCell _ _ _ _ hb]
  have f0 : ∀ x, W.frozen? x = w.frozen? x := fun x => by rw [e0]; simp
  have s0 : W.heap.size = w.heap.size := by rw [e0]; simp
  have cW : ∀ x, W.cell? x = (((w.setCell ⟨Nb, o, none⟩ (.slice p 0 cap)).setCell ⟨Nb, o + 1, none⟩ (.slice none 0 0)).setCell ⟨Nb, o + 2, none⟩ (.int .i64 0)).cell? x := fun x => by rw [e0]; rfl
  refine ⟨⟨?_, ?_, ?_, fun i hi => absurd hi (by omega), fun k hk => absurd hk (by omega), fun i => (f0 _).trans (fz i), by omega, fun a ha => ⟨hsep a ha, fun b hb => by cases hb⟩⟩, ⟨?_, fun x _ => f0 x, by omega, by rw [e0]; rfl, by rw [e0]; rfl, by rw [e0]; rfl, fun b _ hb => b0 b hb⟩⟩
  · rw [cW, World.cell?_setCell_other _ _ _ _ (by simp), World.cell?_setCell_other _ _ _ _ (by simp)]
    exact World.cell?_setCell_same _ _ _ h0
  · rw [cW, World.cell?_setCell_other _ _ _ _ (by simp)]
    exact World.cell?_setCell_same _ _ _ (by rw [World.cell?_setCell_other _ _ _ _ (by simp)]; exact h1)
  · rw [cW]
    exact World.cell?_setCell_same _ _ _ (by rw [World.cell?_setCell_other _ _ _ _ (by simp), World.cell?_setCell_other _ _ _ _ (by simp)]; exact h2)
  · intro x hx hxN
    by_cases hb : x.block = Nb
    · obtain ⟨g0, g1, g2⟩ := hxN hb
      rw [cW, World.cell?_setCell_other _ _ _ _ (by intro e; subst e; exact g2 rfl), World.cell?_setCell_other _ _ _ _ (by intro e; subst e; exact g1 rfl), World.cell?_setCell_other _ _ _ _ (by intro e; subst e; exact g0 rfl)]
    · exact World.cell?_of_block (b0 _ hb)

set_option maxRecDepth 10000 in
set_option maxHeartbeats 400000 in
theorem fill_zero (Nb o cap : Nat) (p : Option Addr) (w : World) (h0 : w.cell? ⟨Nb, o, none⟩ = some (.slice none 0 0)) (h1 : w.cell? ⟨Nb, o + 1, none⟩ = some (.slice none 0 0)) (h2 : w.cell? ⟨Nb, o + 2, none⟩ = some (.int .i64 0))
    (fz : ∀ i, w.frozen? ⟨Nb, i, none⟩ = false) (hN : Nb < w.heap.size) (hsep : ∀ a, p = some a → a.block ≠ Nb) :
    Calls Yba.prog 5 #[.pointer (some ⟨Nb, o, none⟩), .slice p 0 cap] w fun e w' => e = .returned (.tuple #[]) ∧ PSet w' Nb o 0 cap 0 p none (fun _ => true) 0 ∧ Frm w w' Nb o := by
  have HSEP := hide' hsep
  have hclr := clr0
  clear hsep
  go_enter Yba.func5, Yba.ntmps5
  go_wp2_with fail
  go_region
  go_wp2_with fail
  have HS := hide' (fill_start0 Nb o cap p w h0 h1 h2 fz hN HSEP.out _ rfl)
  go_loopg [46] 0 (fun g s46 wr => s46 = .int .i64 0 ∧ Hid (PSet wr Nb o 0 cap 0 p none (fun _ => true) 0 ∧ Frm w wr Nb o))
  case atStart => exact ⟨rfl, HS.out⟩
  case round =>
    obtain ⟨rfl, HP⟩ := hrel
    clear HS
    go_wp2_with fail
    go_end0
    exact ⟨rfl, HP.out⟩

theorem fill_calls (Nb o nl cap : Nat) (p : Option Addr) (w : World) (h0 : w.cell? ⟨Nb, o, none⟩ = some (.slice none 0 0)) (h1 : w.cell? ⟨Nb, o + 1, none⟩ = some (.slice none 0 0)) (h2 : w.cell? ⟨Nb, o + 2, none⟩ = some (.int .i64 0))
    (fz : ∀ i, w.frozen? ⟨Nb, i, none⟩ = false) (hN : Nb < w.heap.size) (hi : Ids w p nl) (hsep : ∀ a, p = some a → a.block ≠ Nb ∧ a.block < w.heap.size) (hnl : nl ≤ 255) :
    Calls Yba.prog 5 #[.pointer (some ⟨Nb, o, none⟩), .slice p nl cap] w fun e w' => e = .returned (.tuple #[]) ∧ ∃ pb wc, PSet w' Nb o nl cap wc p pb (fun _ => true) nl ∧ (∀ a, pb = some a → w.heap.size ≤ a.block) ∧ Frm w w' Nb o := by
  rcases Nat.eq_zero_or_pos nl with h | h
  · subst h
    refine (fill_zero Nb o cap p w h0 h1 h2 fz hN (fun a ha => (hsep a ha).1)).mono ?_
    rintro e w' ⟨rfl, hp, hf⟩
    exact ⟨rfl, none, 0, hp, fun a ha => (by cases ha), hf⟩
  · refine (fill_pos Nb o nl cap p w h0 h1 h2 fz hN hi hsep hnl h).mono ?_
    rintro e w' ⟨rfl, pb, wc, hp, hg, hf⟩
    exact ⟨rfl, pb, wc, hp, hg, hf⟩
end Go.Proofs.Ybulkcgke
