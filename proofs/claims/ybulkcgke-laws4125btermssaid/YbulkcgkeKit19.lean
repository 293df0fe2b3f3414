import Derived.Test.YbulkcgkeKit18
namespace Go.Proofs.Ybulkcgke
set_option linter.unusedSimpArgs false
set_option linter.unusedVariables false
open Go.ChangeShapes Go.WideShapes Go.ChangeAt Go.RowKit Go.Shelf Go.Lib

/-- The law's own count of the run. -/
def q0 (s z : Nat) : Nat := if s % z = 0 then s / z else s / z + 1
theorem q0_fits (s nl nh : Nat) (hs : s < 4611686018427387904) (hnl : nl ≤ 255) (hnh : nh ≤ 255) :
    IntKind.u64.wrap (IntKind.u64.wrap ((q0 s (nl + nh + 1) : Int) * ((nl : Int) + nh + 1)) + ((nl : Int) + 1)) = (termA s nl nh : Int) := by
  have h := termL s nl nh hs hnl hnh
  have h2 := termA_lt s nl nh hs hnl hnh
  have h3 : q0 s (nl + nh + 1) * (nl + nh + 1) + (nl + 1) = termA s nl nh := h
  have e1 : (q0 s (nl + nh + 1) : Int) * ((nl : Int) + nh + 1) = ((q0 s (nl + nh + 1) * (nl + nh + 1) : Nat) : Int) := by push_cast; rfl
  rw [e1]
  simp only [IntKind.wrap_u64]
  generalize q0 s (nl + nh + 1) * (nl + nh + 1) = m at *
  omega
theorem q0_div (s z : Nat) (hs : s < 4611686018427387904) : IntKind.u64.wrap ((s : Int) / (z : Int)) = ((s / z : Nat) : Int) := by
  simp only [IntKind.wrap_u64]
  have h : s / z ≤ s := Nat.div_le_self s z
  rw [← Int.natCast_ediv]
  generalize s / z = m at *
  omega
theorem q0_div1 (s z : Nat) (hs : s < 4611686018427387904) : IntKind.u64.wrap (((s / z : Nat) : Int) + 1) = ((s / z + 1 : Nat) : Int) := by
  simp only [IntKind.wrap_u64]
  have h : s / z ≤ s := Nat.div_le_self s z
  generalize s / z = m at *
  omega

theorem info4 : (Yba.prog.info? 4).map (fun i => (i.zero, i.size, i.bytes)) = some (some (.bool false), 1, 1) := by kernel_rfl
theorem mk51 (n : Nat) (hn : n ≤ 10000) (w : World) : (Instr.makeSlice 51 (.int .i64 n) (.int .i64 n)).run Yba.prog w = .ok (.slice (some ⟨w.heap.size, 0, none⟩) n n) (w.alloc (.cells (madeCells #[.bool false] n) 4)) := by
  obtain ⟨i, hi, hz0, hz1, hz2⟩ := info_parts info4
  have := run_make (P := Yba.prog) w 51 4 i (.bool false) Yba.underlying51 hi hz0 .i64 .i64 n n (by omega) (by omega) (by rw [hz2]; omega) (by omega)
  rw [hz1] at this
  simpa [Value.cells] using this

/-- The law's row of those left. -/
structure Rm (w0 wr : World) (nl : Nat) (f : Nat → Bool) : Prop where
  cell : ∀ k, k ≤ nl → wr.cell? ⟨w0.heap.size, k, none⟩ = some (.bool (f k))
  fz : ∀ k, wr.frozen? ⟨w0.heap.size, k, none⟩ = false
  bel : Below w0.heap.size w0 wr
  lt : w0.heap.size < wr.heap.size
theorem Rm.start (w0 : World) (nl : Nat) : Rm w0 (w0.alloc (.cells (madeCells #[.bool false] (nl + 1)) 4)) nl (fun _ => false) := by
  refine ⟨fun k hk => ?_, fun k => frozen_new _ _ _ _, Below.alloc (Below.refl _ _) (Nat.le_refl _) _, by simp⟩
  rw [cell_new, ← Array.getElem?_toList, toList_madeCells_one, List.getElem?_replicate, if_pos (by omega)]
theorem Rm.put {w0 wr : World} {nl : Nat} {f : Nat → Bool} (h : Rm w0 wr nl f) (k : Nat) (hk : k ≤ nl) (b : Bool) : Rm w0 (wr.setCell ⟨w0.heap.size, k, none⟩ (.bool b)) nl (fun i => if i = k then b else f i) := by
  refine ⟨fun i hi => ?_, fun i => by rw [World.frozen?_setCell]; exact h.fz i, h.bel.setCell (p := ⟨w0.heap.size, k, none⟩) (Nat.le_refl _) _, by simpa using h.lt⟩
  by_cases e : i = k
  · subst e
    rw [World.cell?_setCell_same _ _ _ (h.cell i hi)]; simp
  · rw [World.cell?_setCell_other _ _ _ _ (by simp <;> omega), h.cell i hi]; simp [e]
theorem Rm.cong {w0 wr : World} {nl : Nat} {f g : Nat → Bool} (h : Rm w0 wr nl f) (hfg : ∀ k, k ≤ nl → f k = g k) : Rm w0 wr nl g :=
  ⟨fun k hk => by rw [← hfg k hk]; exact h.cell k hk, h.fz, h.bel, h.lt⟩

/-- While the member waits. -/
structure Run (w wq : World) (Nb Eb Pb gc rb nl nh wc d s sz : Nat) (ph pb : Option Addr) (S : Nat → Bool) (xs : List Int) : Prop where
  nd : Nd wq Nb Eb nl nh nl nh wc d s sz (some ⟨Pb, 0, none⟩) ph pb S awT
  bel : Below w.heap.size w wq
  row : ∀ k v, xs[k]? = some v → wq.cell? ⟨gc, k, none⟩ = some (.int .i64 v)
  rem : ∀ k, 1 ≤ k → k ≤ nl → wq.cell? ⟨rb, k, none⟩ = some (.bool (S (nl - k)))
  fr : ∀ k, wq.frozen? ⟨rb, k, none⟩ = false
  g : gc ≠ Nb ∧ gc ≠ Eb ∧ (∀ a, pb = some a → gc ≠ a.block) ∧ gc < wq.heap.size
  r : rb ≠ Nb ∧ rb ≠ Eb ∧ (∀ a, pb = some a → rb ≠ a.block) ∧ rb < wq.heap.size
  rg : rb ≠ gc
  rP : rb ≠ Pb
  own : w.heap.size ≤ Nb ∧ w.heap.size ≤ Eb ∧ w.heap.size ≤ rb ∧ (∀ a, pb = some a → w.heap.size ≤ a.block)

theorem Ks.below {w wq w' : World} {Nb Eb : Nat} {pb : Option Addr} (h : Ks wq w' Nb Eb pb) (hb : Below w.heap.size w wq) (h1 : w.heap.size ≤ Nb) (h2 : w.heap.size ≤ Eb) (h3 : ∀ a, pb = some a → w.heap.size ≤ a.block) : Below w.heap.size w w' :=
  hb.trans ⟨h.os, h.tape, h.output, h.size, fun k hk => h.block k (by have := hb.size; omega) (by omega) (by omega) (fun a ha => by have := h3 a ha; omega)⟩

/-- A call that leaves someone: the rows are as they were. -/
theorem Run.after {w wq w' : World} {Nb Eb Pb gc rb nl nh wc d s sz sz' : Nat} {ph pb : Option Addr} {S S' : Nat → Bool} {xs : List Int} (h : Run w wq Nb Eb Pb gc rb nl nh wc d s sz ph pb S xs) (hk : Ks wq w' Nb Eb pb)
    (hn : Nd w' Nb Eb nl nh nl nh wc d s sz' (some ⟨Pb, 0, none⟩) ph pb S' awT) (hS : ∀ k, 1 ≤ k → k ≤ nl → S (nl - k) = S' (nl - k)) : Run w w' Nb Eb Pb gc rb nl nh wc d s sz' ph pb S' xs := by
  have bg : w'.heap[gc]? = wq.heap[gc]? := hk.block gc h.g.2.2.2 h.g.1 h.g.2.1 h.g.2.2.1
  have br : w'.heap[rb]? = wq.heap[rb]? := hk.block rb h.r.2.2.2 h.r.1 h.r.2.1 h.r.2.2.1
  refine ⟨hn, hk.below h.bel h.own.1 h.own.2.1 h.own.2.2.2, fun k v hv => (World.cell?_of_block (a := ⟨gc, k, none⟩) bg).trans (h.row k v hv), fun k h1 h2 => ?_, fun k => (World.frozen?_of_block (a := ⟨rb, k, none⟩) br).trans (h.fr k), ⟨h.g.1, h.g.2.1, h.g.2.2.1, Nat.lt_of_lt_of_le h.g.2.2.2 hk.size⟩, ⟨h.r.1, h.r.2.1, h.r.2.2.1, Nat.lt_of_lt_of_le h.r.2.2.2 hk.size⟩, h.rg, h.rP, h.own⟩
  rw [← hS k h1 h2]
  exact (World.cell?_of_block (a := ⟨rb, k, none⟩) br).trans (h.rem k h1 h2)

theorem Nd.put {w : World} {Nb Eb nl nh cl ch wc d s sz rb k : Nat} {b : Value} {p ph pb : Option Addr} {S : Nat → Bool} {phv : ByteArray} (h : Nd w Nb Eb nl nh cl ch wc d s sz p ph pb S phv) (h1 : rb ≠ Nb) (h2 : rb ≠ Eb) (h3 : ∀ a, pb = some a → rb ≠ a.block) (h4 : ∀ a, p = some a → rb ≠ a.block) :
    Nd (w.setCell ⟨rb, k, none⟩ b) Nb Eb nl nh cl ch wc d s sz p ph pb S phv := by
  have c : ∀ x : Addr, x.block ≠ rb → (w.setCell ⟨rb, k, none⟩ b).cell? x = w.cell? x := fun x hx => World.cell?_setCell_other _ _ _ _ (by intro e; subst e; exact hx rfl)
  have cN : ∀ i, (w.setCell ⟨rb, k, none⟩ b).cell? ⟨Nb, i, none⟩ = w.cell? ⟨Nb, i, none⟩ := fun i => c _ (Ne.symm h1)
  have f : ∀ x : Addr, (w.setCell ⟨rb, k, none⟩ b).frozen? x = w.frozen? x := fun x => World.frozen?_setCell _ _ _ _
  have sz' : (w.setCell ⟨rb, k, none⟩ b).heap.size = w.heap.size := by simp
  refine ⟨(cN _).trans h.c0, (cN _).trans h.c6, (cN _).trans h.c14, (cN _).trans h.c15, (cN _).trans h.c16, (cN _).trans h.c17, (cN _).trans h.c18, (cN _).trans h.c19, (cN _).trans h.c20, (cN _).trans h.c21, (cN _).trans h.c22,
    ⟨(cN _).trans h.set.c0, (cN _).trans h.set.c1, (cN _).trans h.set.c2, ?_, ?_, fun i => (f _).trans (h.set.fz i), by rw [sz']; exact h.set.sN, h.set.sep⟩, (c ⟨Eb, 0, none⟩ (Ne.symm h2)).trans h.log, (f _).trans h.fe, by rw [sz']; exact h.sE, h.ne, fun a ha => ⟨(h.sepP a ha).1, by rw [sz']; exact (h.sepP a ha).2⟩, h.sepB⟩
  · exact h.set.ids.kept (fun a ha i => c ⟨a.block, a.off + i, none⟩ (Ne.symm (h4 a ha))) (by rw [sz']; exact Nat.le_refl _)
  · intro j hj
    obtain ⟨gb, e, g1, g2, g3, v, g4, g5, g6⟩ := h.set.bits j hj
    refine ⟨gb, e, g1, by rw [sz']; exact g2, fun i => (f _).trans (g3 i), v, ?_, g5, g6⟩
    rw [c ⟨gb, j, none⟩ (Ne.symm (h3 ⟨gb, 0, none⟩ e))]; exact g4

/-- The law strikes one out. -/
theorem Run.struck {w wq w' : World} {Nb Eb Pb gc rb nl nh wc d s sz sz' k : Nat} {ph pb : Option Addr} {S S' : Nat → Bool} {xs : List Int} (h : Run w wq Nb Eb Pb gc rb nl nh wc d s sz ph pb S xs) (hk : Ks wq w' Nb Eb pb)
    (hn : Nd w' Nb Eb nl nh nl nh wc d s sz' (some ⟨Pb, 0, none⟩) ph pb S' awT) (h1 : 1 ≤ k) (h2 : k ≤ nl) (hS : ∀ j, 1 ≤ j → j ≤ nl → S' (nl - j) = if j = k then false else S (nl - j)) :
    Run w (w'.setCell ⟨rb, k, none⟩ (.bool false)) Nb Eb Pb gc rb nl nh wc d s sz' ph pb S' xs := by
  have bg : w'.heap[gc]? = wq.heap[gc]? := hk.block gc h.g.2.2.2 h.g.1 h.g.2.1 h.g.2.2.1
  have br : w'.heap[rb]? = wq.heap[rb]? := hk.block rb h.r.2.2.2 h.r.1 h.r.2.1 h.r.2.2.1
  have sz'' : (w'.setCell ⟨rb, k, none⟩ (.bool false)).heap.size = w'.heap.size := by simp
  refine ⟨hn.put h.r.1 h.r.2.1 h.r.2.2.1 (fun a ha => by cases ha; exact h.rP), (hk.below h.bel h.own.1 h.own.2.1 h.own.2.2.2).setCell (p := ⟨rb, k, none⟩) h.own.2.2.1 _, fun i v hv => ?_, fun i h3 h4 => ?_, fun i => ?_, ⟨h.g.1, h.g.2.1, h.g.2.2.1, by rw [sz'']; exact Nat.lt_of_lt_of_le h.g.2.2.2 hk.size⟩, ⟨h.r.1, h.r.2.1, h.r.2.2.1, by rw [sz'']; exact Nat.lt_of_lt_of_le h.r.2.2.2 hk.size⟩, h.rg, h.rP, h.own⟩
  · rw [World.cell?_setCell_other _ _ _ _ (by simp [h.rg]), World.cell?_of_block (a := ⟨gc, i, none⟩) bg]; exact h.row i v hv
  · have hc : w'.cell? ⟨rb, i, none⟩ = some (.bool (S (nl - i))) := (World.cell?_of_block (a := ⟨rb, i, none⟩) br).trans (h.rem i h3 h4)
    rw [hS i h3 h4]
    by_cases e : i = k
    · subst e
      rw [World.cell?_setCell_same _ _ _ hc]; simp
    · rw [World.cell?_setCell_other _ _ _ _ (by simp <;> omega), hc]; simp [e]
  · rw [World.frozen?_setCell]; exact (World.frozen?_of_block (a := ⟨rb, i, none⟩) br).trans (h.fr i)

/-- Once it coordinates. -/
structure Fin' (w wq : World) (Nb Eb gc T : Nat) (xs : List Int) : Prop where
  c17 : wq.cell? ⟨Nb, 17, none⟩ = some (.string { data := #[99, 111, 111, 114, 100, 105, 110, 97, 116, 105, 110, 103] })
  c21 : wq.cell? ⟨Nb, 21, none⟩ = some (.int .u64 T)
  log : ∃ q L c, wq.cell? ⟨Eb, 0, none⟩ = some (.slice q L c)
  row : ∀ k v, xs[k]? = some v → wq.cell? ⟨gc, k, none⟩ = some (.int .i64 v)
  bel : Below w.heap.size w wq

/-- rem1 at the law's places. -/
theorem rem1_hit (nl : Nat) (S : Nat → Bool) (k : Nat) (h1 : 1 ≤ k) (h2 : k ≤ nl) : isLow nl (-(k : Int)) = true ∧ plc nl (-(k : Int)) = nl - k := by
  have h : isLow nl (-(k : Int)) = true := by simp [isLow]; omega
  refine ⟨h, ?_⟩
  have := (plc_lt nl _ h).2
  omega
theorem rem1_law (nl : Nat) (S : Nat → Bool) (k j : Nat) (h1 : 1 ≤ k) (h2 : k ≤ nl) (h3 : 1 ≤ j) (h4 : j ≤ nl) : rem1 nl S (-(k : Int)) (nl - j) = if j = k then false else S (nl - j) := by
  obtain ⟨e1, e2⟩ := rem1_hit nl S k h1 h2
  unfold rem1
  rw [e1, e2]
  by_cases e : j = k
  · simp [e]
  · have : ¬ (nl - j = nl - k) := by omega
    simp [e, this]
end Go.Proofs.Ybulkcgke
