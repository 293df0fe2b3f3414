import Derived.Test.YbulkcgkeKit19
namespace Go.Proofs.Ybulkcgke
set_option linter.unusedSimpArgs false
set_option linter.unusedVariables false
open Go.ChangeShapes Go.WideShapes Go.ChangeAt Go.RowKit Go.Shelf Go.Lib

theorem run_start {w w2 wc wr : World} {Nb Eb Pb nl nh c d s n : Nat} {ph pb : Option Addr} {xs : List Int} (HM : Md w w2 Nb Eb Pb nl nh c d s ph pb awT) (HR : Rw w2 w2.heap.size wc w2.heap.size n n xs) (HRM : Rm wc wr nl (fun e => decide (1 ≤ e ∧ e ≤ nl))) :
    Run w wr Nb Eb Pb w2.heap.size wc.heap.size nl nh c d s nl ph pb (fun _ => true) xs := by
  have hN := HM.nd.set.sN
  have hE := HM.nd.sE
  have hP := (HM.nd.sepP _ rfl).2
  have hP2 : Pb < w2.heap.size := hP
  have l1 := HM.bel.size
  have l2 := HR.bel.size
  have l3 := HRM.lt
  have lg := (HR.own.lt w2.heap.size rfl).2
  refine ⟨(HM.nd.kept HR.bel).kept HRM.bel, (HM.bel.trans (HR.bel.mono l1)).trans (HRM.bel.mono (by omega)), fun k v hv => (HRM.bel.cell (p := ⟨w2.heap.size, k, none⟩) lg).trans (HR.cell k v hv), fun k h1 h2 => ?_, HRM.fz, ⟨by omega, by omega, fun a ha => by have := (HM.bB a ha).2; omega, by omega⟩, ⟨by omega, by omega, fun a ha => by have := (HM.bB a ha).2; omega, by omega⟩, by omega, by omega, HM.bN, HM.bE, by omega, fun a ha => (HM.bB a ha).1⟩
  have := HRM.cell k h2
  simpa [h1, h2] using this

/-- Someone is left, no one is struck out. -/
theorem stop_A1n {w wq : World} {Nb Eb Pb gc rb nl nh c d s sz : Nat} {ph pb : Option Addr} {S : Nat → Bool} {xs : List Int} (q : Int) (h : Run w wq Nb Eb Pb gc rb nl nh c d s sz ph pb S xs) (hnl : nl ≤ 255) (hle : sz ≤ nl) (hpos : 0 < sz) (hh : hit nl S q = false) :
    Calls Yba.prog 6 #[.pointer (some ⟨Nb, 0, none⟩), .int .i64 q] wq fun e w' => e = .returned (.tuple #[]) ∧ Hid (∃ S', Run w w' Nb Eb Pb gc rb nl nh c d s sz ph pb S' xs) ∧
      w'.cell? ⟨Eb, 0, none⟩ = some (.slice none 0 0) ∧ w'.cell? ⟨Nb, 17, none⟩ = some (.string { data := #[97, 119, 97, 105, 116, 105, 110, 103, 32, 116, 101, 114, 109, 115] }) ∧ w'.cell? ⟨Nb, 26, none⟩ = some (.int .i64 sz) ∧ w'.cell? ⟨Nb, 21, none⟩ = some (.int .u64 s) ∧
      (∀ k, 1 ≤ k → k ≤ nl → w'.cell? ⟨rb, k, none⟩ = some (.bool (S (nl - k)))) := by
  have := stop_wait Nb Eb nl nh nl nh c d s sz _ ph pb S q wq h.nd hnl (by omega) (fun e => by rw [hh] at e; cases e) (by rw [hh]; exact hpos)
  rw [hh] at this
  refine this.mono ?_
  rintro e w' ⟨rfl, hn, hk⟩
  have hr := h.after hk hn (fun k h1 h2 => by
    obtain ⟨e1, e2⟩ := rem1_hit nl S k h1 h2
    unfold rem1
    cases hl : isLow nl q
    · simp
    · by_cases e : nl - k = plc nl q
      · have : S (nl - k) = false := by
          have := hh
          unfold hit at this
          rw [hl, ← e] at this
          simpa using this
        simp [this]
      · simp [e])
  refine ⟨rfl, ⟨_, hr⟩, hn.log, hn.c17, hn.set.c2, hn.c21, fun k h1 h2 => ?_⟩
  exact (World.cell?_of_block (a := ⟨rb, k, none⟩) (hk.block rb h.r.2.2.2 h.r.1 h.r.2.1 h.r.2.2.1)).trans (h.rem k h1 h2)

theorem hit_law (nl : Nat) (S : Nat → Bool) (k : Nat) (h1 : 1 ≤ k) (h2 : k ≤ nl) : hit nl S (-(k : Int)) = S (nl - k) := by
  obtain ⟨e1, e2⟩ := rem1_hit nl S k h1 h2
  unfold hit
  rw [e1, e2]; rfl
theorem hit_out (nl : Nat) (S : Nat → Bool) (q : Int) (h : ¬ (q ≤ -1 ∧ -(nl : Int) ≤ q)) : hit nl S q = false := by
  unfold hit isLow
  by_cases h1 : -(nl : Int) ≤ q
  · have : ¬ (q ≤ -1) := fun e => h ⟨e, h1⟩
    simp [this]
  · simp [h1]

/-- Someone is left, one is struck out. -/
theorem stop_A1h {w wq : World} {Nb Eb Pb gc rb nl nh c d s sz : Nat} {ph pb : Option Addr} {S : Nat → Bool} {xs : List Int} (k : Nat) (h1 : 1 ≤ k) (h2 : k ≤ nl) (h : Run w wq Nb Eb Pb gc rb nl nh c d s (sz + 1) ph pb S xs) (hnl : nl ≤ 255) (hle : sz + 1 ≤ nl) (hpos : 0 < sz) (hh : S (nl - k) = true) :
    Calls Yba.prog 6 #[.pointer (some ⟨Nb, 0, none⟩), .int .i64 (-(k : Int))] wq fun e w' => e = .returned (.tuple #[]) ∧ Hid (∃ S', Run w (w'.setCell ⟨rb, k, none⟩ (.bool false)) Nb Eb Pb gc rb nl nh c d s sz ph pb S' xs) ∧
      w'.cell? ⟨Eb, 0, none⟩ = some (.slice none 0 0) ∧ w'.cell? ⟨Nb, 17, none⟩ = some (.string { data := #[97, 119, 97, 105, 116, 105, 110, 103, 32, 116, 101, 114, 109, 115] }) ∧ w'.cell? ⟨Nb, 26, none⟩ = some (.int .i64 sz) ∧ w'.cell? ⟨Nb, 21, none⟩ = some (.int .u64 s) ∧
      w'.cell? ⟨rb, k, none⟩ = some (.bool true) ∧ w'.frozen? ⟨rb, k, none⟩ = false := by
  have hit1 : hit nl S (-(k : Int)) = true := by rw [hit_law nl S k h1 h2]; exact hh
  have := stop_wait Nb Eb nl nh nl nh c d s (sz + 1) _ ph pb S (-(k : Int)) wq h.nd hnl (by omega) (fun _ => by omega) (by rw [hit1]; simpa using hpos)
  rw [hit1] at this
  simp only [if_true, Nat.add_sub_cancel] at this
  refine this.mono ?_
  rintro e w' ⟨rfl, hn, hk⟩
  have br := hk.block rb h.r.2.2.2 h.r.1 h.r.2.1 h.r.2.2.1
  refine ⟨rfl, ⟨_, h.struck hk hn h1 h2 (fun j h3 h4 => rem1_law nl S k j h1 h2 h3 h4)⟩, hn.log, hn.c17, hn.set.c2, hn.c21, ?_, (World.frozen?_of_block (a := ⟨rb, k, none⟩) br).trans (h.fr k)⟩
  rw [World.cell?_of_block (a := ⟨rb, k, none⟩) br, h.rem k h1 h2, hh]

/-- No one is left. -/
structure Last (w w' : World) (Nb Eb gc rb nl cl d T : Nat) (p : Option Addr) (S : Nat → Bool) (xs : List Int) (lg : Addr) (lc : Nat) : Prop where
  c17 : w'.cell? ⟨Nb, 17, none⟩ = some (.string { data := #[99, 111, 111, 114, 100, 105, 110, 97, 116, 105, 110, 103] })
  c19 : w'.cell? ⟨Nb, 19, none⟩ = some (.bool true)
  c20 : w'.cell? ⟨Nb, 20, none⟩ = some (.int .u64 T)
  c21 : w'.cell? ⟨Nb, 21, none⟩ = some (.int .u64 T)
  c22 : w'.cell? ⟨Nb, 22, none⟩ = some (.int .u64 1)
  c24 : w'.cell? ⟨Nb, 24, none⟩ = some (.slice p nl cl)
  c26 : w'.cell? ⟨Nb, 26, none⟩ = some (.int .i64 0)
  log : w'.cell? ⟨Eb, 0, none⟩ = some (.slice (some lg) (logN nl d) lc)
  rem : ∀ k, 1 ≤ k → k ≤ nl → w'.cell? ⟨rb, k, none⟩ = some (.bool (S (nl - k)))
  fr : ∀ k, w'.frozen? ⟨rb, k, none⟩ = false
  fin : Fin' w w' Nb Eb gc T xs
  fin2 : ∀ k, Fin' w (w'.setCell ⟨rb, k, none⟩ (.bool false)) Nb Eb gc T xs
  coord : ∀ W : World, (∀ x : Addr, x.block ≠ rb → W.cell? x = w'.cell? x) → Calls Yba.prog 8 #[.slice (some lg) (logN nl d) lc, .int .i64 nl, .int .u64 T, .int .i64 d] W fun e W' => e = .returned (.bool true) ∧ W' = W

theorem stop_A2 {w wq : World} {Nb Eb Pb gc rb nl nh c d s sz : Nat} {ph pb : Option Addr} {S : Nat → Bool} {xs : List Int} (q : Int) (h : Run w wq Nb Eb Pb gc rb nl nh c d s sz ph pb S xs) (hnl : nl ≤ 255) (hnh : nh ≤ 255) (hd : d ≤ 65535) (hs : s < 4611686018427387904) (hle : sz ≤ nl) (hpos : hit nl S q = true → 1 ≤ sz) (hleft : (if hit nl S q then sz - 1 else sz) = 0) :
    Calls Yba.prog 6 #[.pointer (some ⟨Nb, 0, none⟩), .int .i64 q] wq fun e w' => e = .returned (.tuple #[]) ∧ ∃ g lc, Hid (Last w w' Nb Eb gc rb nl nl d (termA s nl nh) (some ⟨Pb, 0, none⟩) S xs ⟨g, 0, none⟩ lc) := by
  refine (stop_done Nb Eb nl nh nl nh c d s sz _ ph pb S q wq h.nd hnl hnh hd hs (by omega) hpos hleft).mono ?_
  rintro e w' ⟨rfl, ⟨base, hbase, hD⟩, hk⟩
  obtain ⟨⟨q', lc, hlog, hown⟩, hfz, hlt, hle'⟩ := hD.lg
  have hn0 : logN nl d ≠ 0 := by unfold logN; omega
  rcases hown.2 with ⟨e1, e2⟩ | ⟨g, cap, cur, e1, hg, hrest⟩
  · exact absurd e2 hn0
  · cases e1
    have bg : w'.heap[gc]? = wq.heap[gc]? := hk.block gc h.g.2.2.2 h.g.1 h.g.2.1 h.g.2.2.1
    have br : w'.heap[rb]? = wq.heap[rb]? := hk.block rb h.r.2.2.2 h.r.1 h.r.2.1 h.r.2.2.1
    have bel := hk.below h.bel h.own.1 h.own.2.1 h.own.2.2.2
    have hrow : ∀ k v, xs[k]? = some v → w'.cell? ⟨gc, k, none⟩ = some (.int .i64 v) := fun k v hv => (World.cell?_of_block (a := ⟨gc, k, none⟩) bg).trans (h.row k v hv)
    have hrg : rb ≠ g := by have := h.r.2.2.2; omega
    refine ⟨rfl, g, lc, ⟨hD.c17, hD.c19, hD.c20, hD.c21, hD.c22, hD.c24, hD.c26, hlog, fun k h1 h2 => (World.cell?_of_block (a := ⟨rb, k, none⟩) br).trans (h.rem k h1 h2), fun k => (World.frozen?_of_block (a := ⟨rb, k, none⟩) br).trans (h.fr k), ⟨hD.c17, hD.c21, ⟨_, _, _, hlog⟩, hrow, bel⟩, fun k => ?_, fun W hW => ?_⟩⟩
    · have cc : ∀ x : Addr, x.block ≠ rb → (w'.setCell ⟨rb, k, none⟩ (.bool false)).cell? x = w'.cell? x := fun x hx => World.cell?_setCell_other _ _ _ _ (by intro e; subst e; exact hx rfl)
      exact ⟨(cc _ (Ne.symm h.r.1)).trans hD.c17, (cc _ (Ne.symm h.r.1)).trans hD.c21, ⟨_, _, _, (cc ⟨Eb, 0, none⟩ (Ne.symm h.r.2.1)).trans hlog⟩, fun j v hv => (cc ⟨gc, j, none⟩ (Ne.symm h.rg)).trans (hrow j v hv), bel.setCell (p := ⟨rb, k, none⟩) h.own.2.2.1 _⟩
    · refine coord_calls g (logN nl d) lc nl d (termA s nl nh) W rfl hnl hd (fun j u hu => ?_)
      rw [hW ⟨g, j, none⟩ (Ne.symm hrg)]
      have := hown.cells (g := g) rfl j u hu
      rwa [ad_add] at this
end Go.Proofs.Ybulkcgke
