import Derived.Test.YbulkcgioFmtKit8
import Derived.OwnWalk
import Derived.Deep.DeepCutAuto
namespace Go.Proofs.YbulkcgioFmt.Kit
set_option linter.unusedSimpArgs false
set_option linter.unusedVariables false
open Go.ChangeShapes Go.WideShapes Go.ChangeAt Go.RowKit

theorem info5 : (Ybaf.prog.info? 5).map (fun i => (i.zero, i.size, i.bytes)) = some (some (.int .u8 0), 1, 1) := by kernel_rfl
theorem info_parts {e : TypeId} {z : Option Value} {s b : Nat} (h : (Ybaf.prog.info? e).map (fun i => (i.zero, i.size, i.bytes)) = some (z, s, b)) :
    ∃ i, Ybaf.prog.info? e = some i ∧ i.zero = z ∧ i.size = s ∧ i.bytes = b := by
  obtain ⟨i, hi, h⟩ := Option.map_eq_some_iff.1 h
  simp only [Prod.mk.injEq] at h
  exact ⟨i, hi, h.1, h.2.1, h.2.2⟩
def Z8 (n : Nat) : Array Value := madeCells #[.int .u8 0] n
theorem mk22 (k : IntKind) (n : Nat) (hn : n ≤ 1000000) (w : World) : (Instr.makeSlice 22 (.int k n) (.int k n)).run Ybaf.prog w = .ok (.slice (some ⟨w.heap.size, 0, none⟩) n n) (w.alloc (.cells (Z8 n) 5)) := by
  obtain ⟨i, hi, hz0, hz1, hz2⟩ := info_parts info5
  have := run_make (P := Ybaf.prog) w 22 5 i (.int .u8 0) Ybaf.underlying22 hi hz0 k k n n (by omega) (by omega) (by rw [hz2]; omega) (by omega)
  rw [hz1] at this
  simpa [Z8, Value.cells] using this
theorem z8_cell (w : World) (n i : Nat) (hi : i < n) : ((w.alloc (.cells (Z8 n) 5)).cell? ⟨w.heap.size, i, none⟩).isSome = true := by
  simp [go_sem, Z8, madeCells, hi]

/-- All that the reader needs. -/
structure Env (w : World) (N B R gb D n cap0 : Nat) (a : Option Addr) (z : List Int) (pos : Nat) (e0 e1 : Addr) : Prop where
  st : St w N B R gb n cap0 a z pos
  sent : Sent w N e0 e1
  d0 : w.cell? ⟨D, 0, none⟩ = some (.pointer (some ⟨B, 0, none⟩))
  fD : ∀ i, w.frozen? ⟨D, i, none⟩ = false
  nD : N ≤ D
  nB : N ≤ B
  nR : N ≤ R
  nG : N ≤ gb
  BR : B ≠ R
  BG : B ≠ gb
  RG : R ≠ gb
  DB : D ≠ B
  DR : D ≠ R
  DG : D ≠ gb
  sD : D < w.heap.size
  sB : B < w.heap.size
  sR : R < w.heap.size
  sG : gb < w.heap.size
  sN : N ≤ w.heap.size

/-- The reader's data. -/
structure Dat (w : World) (N B R gb D : Nat) (p : Option Addr) (dl dc : Nat) : Prop where
  cell : w.cell? ⟨D, 3, none⟩ = some (.slice p dl dc)
  le : dl ≤ dc
  ok : (p = none ∧ dc = 0) ∨ ∃ g, p = some ⟨g, 0, none⟩ ∧ N ≤ g ∧ B ≠ g ∧ R ≠ g ∧ gb ≠ g ∧ D ≠ g ∧ g < w.heap.size ∧ (∀ j, j < dc → (w.cell? ⟨g, j, none⟩).isSome = true) ∧ (∀ i, w.frozen? ⟨g, i, none⟩ = false)

theorem Dat.apart {w : World} {N B R gb D g dl dc n cap0 pos : Nat} {a : Option Addr} {z : List Int} {e0 e1 : Addr} (he : Env w N B R gb D n cap0 a z pos e0 e1) (h1 : N ≤ g) (h2 : B ≠ g) (h3 : R ≠ g) (h4 : gb ≠ g) : Apart N B R gb g :=
  ⟨he.nB, he.nR, he.nG, h1, he.BR, he.BG, h2, he.RG, h3, h4⟩
theorem Env.drew {w : World} {N B R gb D n cap0 pos : Nat} {a : Option Addr} {z : List Int} {e0 e1 : Addr} (h : Env w N B R gb D n cap0 a z pos e0 e1) : Env w.drew N B R gb D n cap0 a z pos e0 e1 :=
  ⟨h.st.drew, ⟨h.sent.he0, h.sent.he1, h.sent.n1, h.sent.b0, h.sent.b1, h.sent.l0, h.sent.l1, h.sent.ne⟩, h.d0, h.fD, h.nD, h.nB, h.nR, h.nG, h.BR, h.BG, h.RG, h.DB, h.DR, h.DG, h.sD, h.sB, h.sR, h.sG, h.sN⟩
theorem Dat.drew {w : World} {N B R gb D dl dc : Nat} {p : Option Addr} (h : Dat w N B R gb D p dl dc) : Dat w.drew N B R gb D p dl dc := ⟨h.cell, h.le, h.ok⟩

/-- What readData's own call leaves. -/
structure After (w w' : World) (N B R gb D n cap0 pos nn c m : Nat) (p a : Option Addr) (z : List Int) (e0 e1 : Addr) : Prop where
  dat : Dat w' N B R gb D p nn c
  env : Env w' N B R gb D n cap0 a z (pos + m) e0 e1
  bytes : ∀ j, j < m → ∃ g, p = some ⟨g, 0, none⟩ ∧ w'.cell? ⟨g, j, none⟩ = some (.int .u8 (z.getD (pos + j) 0))
  below : Below N w w'

theorem read_dat (N B R gb D n cap0 pos nn c : Nat) (p a : Option Addr) (z : List Int) (e0 e1 : Addr) (w : World) (hpos : pos ≤ n) (hnc : n ≤ cap0) (hn : n ≤ 16384) (hnn : nn ≤ 262144)
    (hz : ∀ j, 0 ≤ z.getD j 0 ∧ z.getD j 0 < 256) (he : Env w N B R gb D n cap0 a z pos e0 e1) (hdat : Dat w N B R gb D p nn c) :
    Calls Ybaf.prog 10 #[.pointer (some ⟨D, 0, none⟩), .slice p nn c] w fun e w' =>
      ∃ m : Nat, Hid (After w w' N B R gb D n cap0 pos nn c m p a z e0 e1) ∧ w'.cell? ⟨D, 3, none⟩ = some (.slice p nn c) ∧ m ≤ nn ∧ pos + m ≤ n ∧ ((m = nn ∧ e = .returned .nilIface) ∨ (m < nn ∧ pos + m = n ∧ e = .returned (.iface 60 (.pointer (some e0))))) := by
  have hle := hdat.le
  rcases hdat.ok with ⟨rfl, h0⟩ | ⟨g, rfl, g1, g2, g3, g4, g5, g6, g7, g8⟩
  · obtain rfl : nn = 0 := by omega
    refine (read_zero D _ none c e1 w he.d0 he.sent.he1).mono ?_
    rintro e w' ⟨rfl, rfl⟩
    exact ⟨0, ⟨hdat, he, fun j hj => by omega, Below.refl N _⟩, hdat.cell, by omega, by omega, .inl ⟨rfl, rfl⟩⟩
  · have ha := Dat.apart (dl := nn) (dc := c) he g1 g2 g3 g4
    refine (read_all N B R gb g D nn c n cap0 pos a z e0 e1 w hpos hnc hn (by omega) hle ha hz he.st (fun j hj => g7 j (by omega)) g8 he.sent he.d0).mono ?_
    rintro e w' ⟨m, HM, h1, h2, h⟩
    have hM := HM.out
    have hfr := hM.fr
    have hD : ∀ i, w'.cell? ⟨D, i, none⟩ = w.cell? ⟨D, i, none⟩ := fun i => hfr.other _ he.DB he.DR he.DG (.inl g5)
    refine ⟨m, ⟨⟨(hD 3).trans hdat.cell, hle, .inr ⟨g, rfl, g1, g2, g3, g4, g5, by rw [hfr.size]; exact g6, fun j hj => ?_, fun i => (hfr.frozen _).trans (g8 i)⟩⟩,
      ⟨hM.st, he.sent.kept hfr.below, (hD 0).trans he.d0, fun i => (hfr.frozen _).trans (he.fD i), he.nD, he.nB, he.nR, he.nG, he.BR, he.BG, he.RG, he.DB, he.DR, he.DG, by rw [hfr.size]; exact he.sD, by rw [hfr.size]; exact he.sB, by rw [hfr.size]; exact he.sR, by rw [hfr.size]; exact he.sG, by rw [hfr.size]; exact he.sN⟩, fun j hj => ⟨g, rfl, hM.dest j hj⟩, hfr.below⟩, (hD 3).trans hdat.cell, h1, h2, h⟩
    by_cases hjm : j < m
    · rw [hM.dest j hjm]; rfl
    · rw [hfr.other _ (Ne.symm g2) (Ne.symm g3) (Ne.symm g4) (.inr (.inr (by simp; omega)))]; exact g7 j hj

theorem Env.kept {w W : World} {N B R gb D n cap0 pos : Nat} {a : Option Addr} {z : List Int} {e0 e1 : Addr} (h : Env w N B R gb D n cap0 a z pos e0 e1) (hc : ∀ x : Addr, x.block < w.heap.size → (x.block ≠ D ∨ x.off = 0) → W.cell? x = w.cell? x) (hf : ∀ x : Addr, x.block < w.heap.size → W.frozen? x = w.frozen? x) (hb : Below N w W) : Env W N B R gb D n cap0 a z pos e0 e1 := by
  obtain ⟨rr, ww, ii, lb, ls, pr, hr, hbuf, h1, h2, h3, h4⟩ := h.st
  have sz := hb.size
  refine ⟨⟨rr, ww, ii, lb, ls, pr, ⟨?_, ?_, ?_, ?_, ?_, ?_, ?_, ?_, ?_, ?_, fun i => (hf _ h.sB).trans (hr.fB i), fun i => (hf _ h.sR).trans (hr.fR i), fun i => (hf _ h.sG).trans (hr.fG i), fun j hj => ?_, hr.src.kept hb⟩, fun j hj => ?_, h1, h2, h3, h4⟩, h.sent.kept hb, (hc _ h.sD (.inr rfl)).trans h.d0, fun i => (hf _ h.sD).trans (h.fD i), h.nD, h.nB, h.nR, h.nG, h.BR, h.BG, h.RG, h.DB, h.DR, h.DG, Nat.lt_of_lt_of_le h.sD sz, Nat.lt_of_lt_of_le h.sB sz, Nat.lt_of_lt_of_le h.sR sz, Nat.lt_of_lt_of_le h.sG sz, Nat.le_trans h.sN sz⟩
  · exact (hc _ h.sB (.inl (Ne.symm h.DB))).trans hr.b0
  · exact (hc _ h.sB (.inl (Ne.symm h.DB))).trans hr.b1
  · exact (hc _ h.sB (.inl (Ne.symm h.DB))).trans hr.b2
  · exact (hc _ h.sB (.inl (Ne.symm h.DB))).trans hr.b3
  · exact (hc _ h.sB (.inl (Ne.symm h.DB))).trans hr.b4
  · exact (hc _ h.sB (.inl (Ne.symm h.DB))).trans hr.b5
  · exact (hc _ h.sB (.inl (Ne.symm h.DB))).trans hr.b6
  · exact (hc _ h.sR (.inl (Ne.symm h.DR))).trans hr.r0
  · exact (hc _ h.sR (.inl (Ne.symm h.DR))).trans hr.r1
  · exact (hc _ h.sR (.inl (Ne.symm h.DR))).trans hr.r2
  · rw [hc ⟨gb, j, none⟩ h.sG (.inl (Ne.symm h.DG))]; exact hr.room j hj
  · rw [hc ⟨gb, rr + j, none⟩ h.sG (.inl (Ne.symm h.DG))]; exact hbuf j hj

set_option maxHeartbeats 1000000 in
/-- (*Reader).readData, no more than the limit. -/
theorem readData_ok (N B R gb D n cap0 pos nn dl dc : Nat) (p a : Option Addr) (z : List Int) (e0 e1 : Addr) (w : World) (hpos : pos ≤ n) (hnc : n ≤ cap0) (hn : n ≤ 16384) (hnn : nn ≤ 262144)
    (hz : ∀ j, 0 ≤ z.getD j 0 ∧ z.getD j 0 < 256) (he : Env w N B R gb D n cap0 a z pos e0 e1) (hdat : Dat w N B R gb D p dl dc) :
    Calls Ybaf.prog 6 #[.pointer (some ⟨D, 0, none⟩), .int .u32 nn] w fun e w' => 
      ∃ (p' : Option Addr) (c' m : Nat), Dat w' N B R gb D p' nn c' ∧ Env w' N B R gb D n cap0 a z (pos + m) e0 e1 ∧ (∀ j, j < m → ∃ g, p' = some ⟨g, 0, none⟩ ∧ w'.cell? ⟨g, j, none⟩ = some (.int .u8 (z.getD (pos + j) 0))) ∧ Below N w w' ∧ m ≤ nn ∧ pos + m ≤ n ∧
        ((m = nn ∧ e = .returned (.tuple #[.slice p' nn c', .nilIface])) ∨ (m < nn ∧ pos + m = n ∧ e = .returned (.tuple #[.slice p' nn c', .iface 60 (.pointer (some e0))]))) := by
  have hb1 : decide ((262144 : Int) < nn) = false := by simp; omega
  have d3 := hdat.cell
  have fD3 := he.fD
  have HE := hide' he
  have HDat := hide' hdat
  have HZ := hide' hz
  clear he hdat hz
  by_cases hc : dc < nn
  · have hc1 : decide ((dc : Int) < nn) = true := by simp; omega
    have Hc := hide' hc
    have Hnn := hide' hnn
    clear hc
    have hmk := mk22 .u32 nn (by have := Hnn.out; omega)
    have sD := HE.out.sD
    have k3 : ∀ o, (w.alloc o).cell? ⟨D, 3, none⟩ = some (.slice p dl dc) := fun o => by rw [((Below.refl w.heap.size w).alloc (Nat.le_refl _) o).cell (p := ⟨D, 3, none⟩) sD]; exact d3
    have f3 : ∀ o, (w.alloc o).frozen? ⟨D, 3, none⟩ = false := fun o => by rw [((Below.refl w.heap.size w).alloc (Nat.le_refl _) o).frozen (p := ⟨D, 3, none⟩) sD]; exact fD3 3
    go_enter Ybaf.func6, Ybaf.ntmps6
    go_upto_region 4 with fail
    go_upto_region 5 with fail
    go_upto_region 6 with fail
    obtain ⟨W, hW⟩ : ∃ W, W = (((w.setCell ⟨D, 3, none⟩ (.slice (some ⟨w.heap.size, 0, none⟩) nn nn)).setCell ⟨D, 3, none⟩ (.slice (some ⟨w.heap.size, 0, none⟩) nn nn)).alloc (.cells (Z8 nn) 5)) := ⟨_, rfl⟩
    rw [← hW]
    have hsz : W.heap.size = w.heap.size + 1 := by rw [hW]; simp
    have hcW : ∀ x : Addr, x.block < w.heap.size → (x.block ≠ D ∨ x.off = 0) → W.cell? x = w.cell? x := fun x h1 h2 => by
      rw [hW, ((Below.refl w.heap.size _).alloc (by simp) _).cell (p := x) h1, World.cell?_setCell_other _ _ _ _ (by intro e; subst e; simp at h2), World.cell?_setCell_other _ _ _ _ (by intro e; subst e; simp at h2)]
    have hfW : ∀ x : Addr, x.block < w.heap.size → W.frozen? x = w.frozen? x := fun x h1 => by
      rw [hW, ((Below.refl w.heap.size _).alloc (by simp) _).frozen (p := x) h1, World.frozen?_setCell, World.frozen?_setCell]
    have hbW : Below N w W := by
      rw [hW]
      exact (((Below.refl N w).setCell (p := ⟨D, 3, none⟩) HE.out.nD _).setCell (p := ⟨D, 3, none⟩) HE.out.nD _).alloc (by simp; exact HE.out.sN) _
    have hEW := HE.out.kept hcW hfW hbW
    have hDW : Dat W N B R gb D (some ⟨w.heap.size, 0, none⟩) nn nn := ⟨by rw [hW, ((Below.refl w.heap.size _).alloc (by simp) _).cell (p := ⟨D, 3, none⟩) sD]; simp [go_sem, d3], Nat.le_refl _, .inr ⟨w.heap.size, rfl, HE.out.sN, by have := HE.out.sB; omega, by have := HE.out.sR; omega, by have := HE.out.sG; omega, by omega, by omega, fun j hj => by
        rw [hW]
        have := z8_cell ((w.setCell ⟨D, 3, none⟩ (.slice (some ⟨w.heap.size, 0, none⟩) nn nn)).setCell ⟨D, 3, none⟩ (.slice (some ⟨w.heap.size, 0, none⟩) nn nn)) nn j hj
        simpa using this, fun i => by rw [hW]; simp [go_sem]⟩⟩
    clear hmk k3 f3 d3 fD3
    have hcall0 := read_dat N B R gb D n cap0 pos nn nn (some ⟨w.heap.size, 0, none⟩) a z e0 e1 W.drew hpos hnc hn hnn HZ.out hEW.drew hDW.drew
    have hcall : Calls Ybaf.prog 10 #[.pointer (some ⟨D, 0, none⟩), .slice (some ⟨w.heap.size, 0, none⟩) nn nn] W.drew fun e w2 => ∃ m v, e = .returned v ∧ w2.cell? ⟨D, 3, none⟩ = some (.slice (some ⟨w.heap.size, 0, none⟩) nn nn) ∧ Hid (After W.drew w2 N B R gb D n cap0 pos nn nn m (some ⟨w.heap.size, 0, none⟩) a z e0 e1 ∧ m ≤ nn ∧ pos + m ≤ n ∧ ((m = nn ∧ v = .nilIface) ∨ (m < nn ∧ pos + m = n ∧ v = .iface 60 (.pointer (some e0))))) := by
      refine hcall0.mono ?_
      rintro e w2 ⟨m, HAf, k3, hm1, hm2, ⟨hm3, rfl⟩ | ⟨hm3, hm4, rfl⟩⟩
      · exact ⟨m, _, rfl, k3, HAf.out, hm1, hm2, .inl ⟨hm3, rfl⟩⟩
      · exact ⟨m, _, rfl, k3, HAf.out, hm1, hm2, .inr ⟨hm3, hm4, rfl⟩⟩
    have d3 : W.cell? ⟨D, 3, none⟩ = some (.slice (some ⟨w.heap.size, 0, none⟩) nn nn) := hDW.cell
    clear hcall0
    have HB : Hid (Below N w W) := hbW
    clear hEW hDW hbW hW hcW hfW hsz
    go_region_with (go_at_call 10; refine hcall.mono ?_; rintro e w2 ⟨m, v, rfl, k3, HAf⟩)
    all_goals (
      go_wp2_with fail
      go_ret2
      obtain ⟨hAf, hm1, hm2, hm3⟩ := HAf.out
      refine ⟨_, _, m, hAf.dat, hAf.env, hAf.bytes, HB.out.trans ((Below.refl N W).drew.trans hAf.below), hm1, hm2, ?_⟩
      rcases hm3 with ⟨hm3, rfl⟩ | ⟨hm3, hm4, rfl⟩
      · exact .inl ⟨hm3, rfl⟩
      · exact .inr ⟨hm3, hm4, rfl⟩)
  · have hc1 : decide ((dc : Int) < nn) = false := by simp; omega
    go_enter Ybaf.func6, Ybaf.ntmps6
    go_wp2_with fail
    obtain ⟨W, hW⟩ : ∃ W, W = w.setCell ⟨D, 3, none⟩ (.slice p nn dc) := ⟨_, rfl⟩
    rw [← hW]
    have hsz : W.heap.size = w.heap.size := by rw [hW]; simp
    have hcW : ∀ x : Addr, x.block < w.heap.size → (x.block ≠ D ∨ x.off = 0) → W.cell? x = w.cell? x := fun x h1 h2 => by
      rw [hW, World.cell?_setCell_other _ _ _ _ (by intro e; subst e; simp at h2)]
    have hfW : ∀ x : Addr, x.block < w.heap.size → W.frozen? x = w.frozen? x := fun x h1 => by
      rw [hW, World.frozen?_setCell]
    have hbW : Below N w W := by
      rw [hW]
      exact (Below.refl N w).setCell (p := ⟨D, 3, none⟩) HE.out.nD _
    have hEW := HE.out.kept hcW hfW hbW
    have hDW : Dat W N B R gb D p nn dc := ⟨by rw [hW]; simp [go_sem, d3], by omega, by
      rcases HDat.out.ok with h | ⟨g, h0, h1, h2, h3, h4, h5, h6, h7, h8⟩
      · exact .inl h
      · exact .inr ⟨g, h0, h1, h2, h3, h4, h5, by rw [hsz]; exact h6, fun j hj => by rw [hcW _ h6 (.inl (Ne.symm h5))]; exact h7 j hj, fun i => (hfW _ h6).trans (h8 i)⟩⟩
    clear d3 fD3
    have hcall0 := read_dat N B R gb D n cap0 pos nn dc p a z e0 e1 W.drew hpos hnc hn hnn HZ.out hEW.drew hDW.drew
    have hcall : Calls Ybaf.prog 10 #[.pointer (some ⟨D, 0, none⟩), .slice p nn dc] W.drew fun e w2 => ∃ m v, e = .returned v ∧ w2.cell? ⟨D, 3, none⟩ = some (.slice p nn dc) ∧ Hid (After W.drew w2 N B R gb D n cap0 pos nn dc m p a z e0 e1 ∧ m ≤ nn ∧ pos + m ≤ n ∧ ((m = nn ∧ v = .nilIface) ∨ (m < nn ∧ pos + m = n ∧ v = .iface 60 (.pointer (some e0))))) := by
      refine hcall0.mono ?_
      rintro e w2 ⟨m, HAf, k3, hm1, hm2, ⟨hm3, rfl⟩ | ⟨hm3, hm4, rfl⟩⟩
      · exact ⟨m, _, rfl, k3, HAf.out, hm1, hm2, .inl ⟨hm3, rfl⟩⟩
      · exact ⟨m, _, rfl, k3, HAf.out, hm1, hm2, .inr ⟨hm3, hm4, rfl⟩⟩
    have d3 : W.cell? ⟨D, 3, none⟩ = some (.slice p nn dc) := hDW.cell
    clear hcall0
    have HB : Hid (Below N w W) := hbW
    clear hEW hDW hbW hW hcW hfW hsz
    go_region_with (go_at_call 10; refine hcall.mono ?_; rintro e w2 ⟨m, v, rfl, k3, HAf⟩)
    all_goals (
      go_wp2_with fail
      go_ret2
      obtain ⟨hAf, hm1, hm2, hm3⟩ := HAf.out
      refine ⟨_, _, m, hAf.dat, hAf.env, hAf.bytes, HB.out.trans ((Below.refl N W).drew.trans hAf.below), hm1, hm2, ?_⟩
      rcases hm3 with ⟨hm3, rfl⟩ | ⟨hm3, hm4, rfl⟩
      · exact .inl ⟨hm3, rfl⟩
      · exact .inr ⟨hm3, hm4, rfl⟩)
end Go.Proofs.YbulkcgioFmt.Kit
