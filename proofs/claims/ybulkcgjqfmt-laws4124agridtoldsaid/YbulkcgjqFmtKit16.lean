import Derived.Test.YbulkcgjqFmtKit7
import Derived.Test.YbulkcgjqFmtKit8
import Derived.Test.YbulkcgjqFmtKit14
import Derived.LaidEql
import Derived.WalkSpells
namespace Go.Proofs.YbulkcgjqFmt
set_option linter.unusedSimpArgs false
set_option linter.unusedVariables false
open Go.ChangeShapes Go.WideShapes Go.ChangeAt Go.RowKit Go.Sort

theorem info21 : (Ybaf.prog.info? 21).map (fun i => (i.zero, i.size, i.bytes)) = some (some (.int .i32 0), 1, 4) := by kernel_rfl
theorem mk35 (n : Nat) (hn : n ≤ 1000) (w : World) : (Instr.makeSlice 35 (.int .i64 n) (.int .i64 n)).run Ybaf.prog w = .ok (.slice (some ⟨w.heap.size, 0, none⟩) n n) (w.alloc (.cells (madeCells #[.int .i32 0] n) 21)) := by
  obtain ⟨i, hi, hz0, hz1, hz2⟩ := info_parts info21
  have := run_make (P := Ybaf.prog) w 35 21 i (.int .i32 0) Ybaf.underlying35 hi hz0 .i64 .i64 n n (by omega) (by omega) (by rw [hz2]; omega) (by omega)
  rw [hz1] at this
  simpa [Value.cells] using this
def Znb : Value := .agg #[.int .i32 0, .int .i32 0, .int .u8 0, .bool false, .int .i64 0]
def ZN : Array Value := Znb.cells
theorem info33 : (Ybaf.prog.info? 33).map (fun i => (i.zero, i.size, i.bytes)) = some (some Znb, 5, 24) := by kernel_rfl
theorem mk29 (n : Nat) (hn : n ≤ 1000) (w : World) : (Instr.makeSlice 29 (.int .i32 n) (.int .i32 n)).run Ybaf.prog w = .ok (.slice (some ⟨w.heap.size, 0, none⟩) n n) (w.alloc (.cells (madeCells ZN (n * 5)) 33)) := by
  obtain ⟨i, hi, hz0, hz1, hz2⟩ := info_parts info33
  have := run_make (P := Ybaf.prog) w 29 33 i Znb Ybaf.underlying29 hi hz0 .i32 .i32 n n (by omega) (by omega) (by rw [hz2]; omega) (by omega)
  rw [hz1] at this
  simpa [ZN] using this

def kC (c : Nat) : IntKind := if c < 2 then .i64 else if c = 2 then .u8 else .i32
/-- What Connect carries: the mesh, the table, the glued mesh. -/
structure Cc (w wq : World) (B Mb gb nb cE nE N Gb : Nat) (cn : Nat → Nat → Nat) (k : KP) : Prop where
  mh : Mh wq B Mb gb nb cE nE N cn
  kn : Kn wq B k
  all : ∀ e c, e < nE → c < 11 → ∃ x : Int, wq.cell? ⟨gb, e * 11 + c, none⟩ = some (.int (kC c) x)
  g1 : wq.cell? ⟨Gb, 1, none⟩ = some (.slice (some ⟨gb, 0, none⟩) nE cE)
  g2 : wq.cell? ⟨Gb, 2, none⟩ = some (.slice none 0 0)
  g3 : wq.cell? ⟨Gb, 3, none⟩ = some (.slice none 0 0)
  bel : Below w.heap.size w wq
  lo : w.heap.size ≤ Gb
  hi : Gb < wq.heap.size
  bB : B ≤ w.heap.size
theorem Cc.kept {w wq wz : World} {B Mb gb nb cE nE N Gb X : Nat} {cn : Nat → Nat → Nat} {k : KP} (h : Cc w wq B Mb gb nb cE nE N Gb cn k) (hb : Below X wq wz) (hX : Gb < X) : Cc w wz B Mb gb nb cE nE N Gb cn k := by
  have h1 := h.lo
  have h2 := h.bB
  have hB : Below B wq wz := hb.mono (by omega)
  exact ⟨h.mh.kept hB, h.kn.kept hB, fun e c he hc => by rw [hB.cell (p := ⟨gb, e * 11 + c, none⟩) h.mh.bg]; exact h.all e c he hc, (hb.cell (p := ⟨Gb, 1, none⟩) hX).trans h.g1, (hb.cell (p := ⟨Gb, 2, none⟩) hX).trans h.g2, (hb.cell (p := ⟨Gb, 3, none⟩) hX).trans h.g3, h.bel.trans (hb.mono (by omega)), h.lo, Nat.lt_of_lt_of_le h.hi hb.size, h.bB⟩

/-- The faces' beginnings: first[e] = 4e for e ≤ j. -/
structure Ft (wr : World) (fb nE j : Nat) : Prop where
  cell : ∀ e, e ≤ j → wr.cell? ⟨fb, e, none⟩ = some (.int .i32 ((4 * e : Nat) : Int))
  ex : ∀ e, e ≤ nE → (wr.cell? ⟨fb, e, none⟩).isSome = true
  fz : ∀ e, wr.frozen? ⟨fb, e, none⟩ = false
  lt : fb < wr.heap.size
theorem Ft.kept {wr wq : World} {fb nE j X : Nat} (h : Ft wr fb nE j) (hb : Below X wr wq) (hX : fb < X) : Ft wq fb nE j :=
  ⟨fun e he => (hb.cell (p := ⟨fb, e, none⟩) hX).trans (h.cell e he), fun e he => by rw [hb.cell (p := ⟨fb, e, none⟩) hX]; exact h.ex e he, fun e => (hb.frozen (p := ⟨fb, e, none⟩) hX).trans (h.fz e), Nat.lt_of_lt_of_le h.lt hb.size⟩
theorem Ft.start (w : World) (nE : Nat) : Ft (w.alloc (.cells (madeCells #[.int .i32 0] (nE + 1)) 21)) w.heap.size nE 0 := by
  have hc : ∀ i, i < nE + 1 → (w.alloc (.cells (madeCells #[.int .i32 0] (nE + 1)) 21)).cell? ⟨w.heap.size, i, none⟩ = some (.int .i32 0) := fun i hi => by
    simp only [World.cell?]; rw [heap_alloc_new]
    show (madeCells #[Value.int .i32 0] (nE + 1))[i]? = _
    rw [← Array.getElem?_toList, toList_madeCells_one, List.getElem?_replicate, if_pos hi]
  refine ⟨fun e he => ?_, fun e he => by rw [hc e (by omega)]; rfl, fun e => ?_, by simp⟩
  · obtain rfl : e = 0 := by omega
    exact hc 0 (by omega)
  · simp only [World.frozen?]; rw [heap_alloc_new]; simp
theorem Ft.step {wr : World} {fb nE j : Nat} (h : Ft wr fb nE j) (hj : j < nE) (v : Int) (hv : v = ((4 * (j + 1) : Nat) : Int)) : Ft (wr.setCell ⟨fb, j + 1, none⟩ (.int .i32 v)) fb nE (j + 1) := by
  subst hv
  refine ⟨fun e he => ?_, fun e he => ?_, fun e => by rw [World.frozen?_setCell]; exact h.fz e, by simpa using h.lt⟩
  · by_cases e1 : e = j + 1
    · subst e1
      obtain ⟨v, hv⟩ := Option.isSome_iff_exists.1 (h.ex (j + 1) (by omega))
      exact World.cell?_setCell_same _ _ _ hv
    · rw [World.cell?_setCell_other _ _ _ _ (by simp <;> omega)]; exact h.cell e (by omega)
  · by_cases e1 : e = j + 1
    · subst e1
      obtain ⟨v, hv⟩ := Option.isSome_iff_exists.1 (h.ex (j + 1) (by omega))
      rw [World.cell?_setCell_same _ _ _ hv]; rfl
    · rw [World.cell?_setCell_other _ _ _ _ (by simp <;> omega)]; exact h.ex e he

def sideC (s : Plain.Side) : List Value := [.int .i32 s.1, .int .i32 s.2.1, .int .u8 (s.2.2 : Nat), .bool false, .int .i64 0]
/-- A side is stored: its five cells. -/
def put5 (w : World) (b i : Nat) (s : Plain.Side) : World := ((((w.setCell ⟨b, i * 5, none⟩ (.int .i32 s.1)).setCell ⟨b, i * 5 + 1, none⟩ (.int .i32 s.2.1)).setCell ⟨b, i * 5 + 2, none⟩ (.int .u8 (s.2.2 : Nat))).setCell ⟨b, i * 5 + 3, none⟩ (.bool false)).setCell ⟨b, i * 5 + 4, none⟩ (.int .i64 0)
/-- A row of sides. -/
structure RS (w : World) (b : Nat) (l : List Plain.Side) : Prop where
  cell : ∀ i c, i < l.length → c < 5 → w.cell? ⟨b, i * 5 + c, none⟩ = (sideC (l.getD i (0, 0, 0)))[c]?
  fz : ∀ i, w.frozen? ⟨b, i, none⟩ = false
  lt : b < w.heap.size
theorem RS.kept {w w' : World} {b : Nat} {l : List Plain.Side} (h : RS w b l) {B : Nat} (hb : Below B w w') (hB : b < B) : RS w' b l :=
  ⟨fun i c hi hc => (hb.cell (p := ⟨b, i * 5 + c, none⟩) hB).trans (h.cell i c hi hc), fun i => (hb.frozen (p := ⟨b, i, none⟩) hB).trans (h.fz i), Nat.lt_of_lt_of_le h.lt hb.size⟩
theorem RS.other {w : World} {b b' i : Nat} {l : List Plain.Side} {v : Value} (h : RS w b l) (hne : b' ≠ b) : RS (w.setCell ⟨b', i, none⟩ v) b l :=
  ⟨fun j c hj hc => by rw [World.cell?_setCell_other _ _ _ _ (by simp [hne])]; exact h.cell j c hj hc, fun j => by rw [World.frozen?_setCell]; exact h.fz j, by simpa using h.lt⟩
theorem RS.ex {w : World} {b : Nat} {l : List Plain.Side} (h : RS w b l) (i : Nat) (hi : i < l.length) (c : Nat) (hc : c < 5) : ∃ v, w.cell? ⟨b, i * 5 + c, none⟩ = some v := by
  rw [h.cell i c hi hc]
  rcases c with _ | _ | _ | _ | _ | c <;> first | exact ⟨_, rfl⟩ | omega
theorem RS.put {w : World} {b : Nat} {l : List Plain.Side} (h : RS w b l) (i : Nat) (hi : i < l.length) (x : Plain.Side) : RS (put5 w b i x) b (l.set i x) := by
  obtain ⟨v0, e0⟩ := h.ex i hi 0 (by omega)
  obtain ⟨v1, e1⟩ := h.ex i hi 1 (by omega)
  obtain ⟨v2, e2⟩ := h.ex i hi 2 (by omega)
  obtain ⟨v3, e3⟩ := h.ex i hi 3 (by omega)
  obtain ⟨v4, e4⟩ := h.ex i hi 4 (by omega)
  refine ⟨fun j c hj hc => ?_, fun j => by unfold put5; simp only [World.frozen?_setCell]; exact h.fz j, by unfold put5; simpa using h.lt⟩
  rw [List.length_set] at hj
  unfold put5
  by_cases e : j = i
  · subst e
    have hg : (l.set j x).getD j (0, 0, 0) = x := by simp [List.getD, hj]
    rw [hg]
    rcases c with _ | _ | _ | _ | _ | c
    · rw [World.cell?_setCell_other _ _ _ _ (by simp), World.cell?_setCell_other _ _ _ _ (by simp), World.cell?_setCell_other _ _ _ _ (by simp), World.cell?_setCell_other _ _ _ _ (by simp)]
      exact World.cell?_setCell_same _ _ _ e0
    · rw [World.cell?_setCell_other _ _ _ _ (by simp), World.cell?_setCell_other _ _ _ _ (by simp), World.cell?_setCell_other _ _ _ _ (by simp)]
      exact World.cell?_setCell_same _ _ _ (by rw [World.cell?_setCell_other _ _ _ _ (by simp)]; exact e1)
    · rw [World.cell?_setCell_other _ _ _ _ (by simp), World.cell?_setCell_other _ _ _ _ (by simp)]
      exact World.cell?_setCell_same _ _ _ (by rw [World.cell?_setCell_other _ _ _ _ (by simp), World.cell?_setCell_other _ _ _ _ (by simp)]; exact e2)
    · rw [World.cell?_setCell_other _ _ _ _ (by simp)]
      exact World.cell?_setCell_same _ _ _ (by rw [World.cell?_setCell_other _ _ _ _ (by simp), World.cell?_setCell_other _ _ _ _ (by simp), World.cell?_setCell_other _ _ _ _ (by simp)]; exact e3)
    · exact World.cell?_setCell_same _ _ _ (by rw [World.cell?_setCell_other _ _ _ _ (by simp), World.cell?_setCell_other _ _ _ _ (by simp), World.cell?_setCell_other _ _ _ _ (by simp), World.cell?_setCell_other _ _ _ _ (by simp)]; exact e4)
    · omega
  · have hg : (l.set i x).getD j (0, 0, 0) = l.getD j (0, 0, 0) := by simp [List.getD, List.getElem?_set, Ne.symm e]
    rw [hg]
    rw [World.cell?_setCell_other _ _ _ _ (by simp <;> omega), World.cell?_setCell_other _ _ _ _ (by simp <;> omega), World.cell?_setCell_other _ _ _ _ (by simp <;> omega), World.cell?_setCell_other _ _ _ _ (by simp <;> omega), World.cell?_setCell_other _ _ _ _ (by simp <;> omega)]
    exact h.cell j c hj hc
theorem put5_bel {X : Nat} {w0 w : World} {b i : Nat} (x : Plain.Side) (h : Below X w0 w) (hb : X ≤ b) : Below X w0 (put5 w b i x) :=
  ((((h.setCell (p := ⟨b, i * 5, none⟩) hb _).setCell (p := ⟨b, i * 5 + 1, none⟩) hb _).setCell (p := ⟨b, i * 5 + 2, none⟩) hb _).setCell (p := ⟨b, i * 5 + 3, none⟩) hb _).setCell (p := ⟨b, i * 5 + 4, none⟩) hb _
theorem put5_other {w : World} {b i b' j : Nat} (x : Plain.Side) (hne : b ≠ b') : (put5 w b i x).cell? ⟨b', j, none⟩ = w.cell? ⟨b', j, none⟩ := by
  unfold put5
  rw [World.cell?_setCell_other _ _ _ _ (by simp [hne]), World.cell?_setCell_other _ _ _ _ (by simp [hne]), World.cell?_setCell_other _ _ _ _ (by simp [hne]), World.cell?_setCell_other _ _ _ _ (by simp [hne]), World.cell?_setCell_other _ _ _ _ (by simp [hne])]
theorem put5_frozen {w : World} {b i b' j : Nat} (x : Plain.Side) : (put5 w b i x).frozen? ⟨b', j, none⟩ = w.frozen? ⟨b', j, none⟩ := by
  unfold put5; simp only [World.frozen?_setCell]
theorem put5_size {w : World} {b i : Nat} (x : Plain.Side) : (put5 w b i x).heap.size = w.heap.size := by unfold put5; simp

/-- The connectivity as the runs go: what was laid before (Cc, Ft), its own five cells, its sides, the sorted faces. -/
structure Rs (w wq : World) (B Mb gb nb cE nE N Gb fb sb Eb cap : Nat) (cn : Nat → Nat → Nat) (k : KP) (E : List En) (st : Plain.St) : Prop where
  cc : Cc w wq B Mb gb nb cE nE N Gb cn k
  ft : Ft wq fb nE nE
  rs : RS wq sb st.sides
  re : RE wq Eb E
  c0 : wq.cell? ⟨sb + 1, 0, none⟩ = some (.slice (some ⟨fb, 0, none⟩) (nE + 1) (nE + 1))
  c1 : wq.cell? ⟨sb + 1, 1, none⟩ = some (.slice (some ⟨sb, 0, none⟩) cap cap)
  c2 : wq.cell? ⟨sb + 1, 2, none⟩ = some (.int .i64 (st.inn : Nat))
  c3 : wq.cell? ⟨sb + 1, 3, none⟩ = some (.int .i64 0)
  c4 : wq.cell? ⟨sb + 1, 4, none⟩ = some (.int .i64 (st.bnd : Nat))
  cfz : ∀ i, wq.frozen? ⟨sb + 1, i, none⟩ = false
  len : st.sides.length = cap
  gf : Gb < fb
  fs : fb < sb
  se : sb + 1 < Eb
theorem Rs.kept {w wq wz : World} {B Mb gb nb cE nE N Gb fb sb Eb cap X : Nat} {cn : Nat → Nat → Nat} {k : KP} {E : List En} {st : Plain.St} (h : Rs w wq B Mb gb nb cE nE N Gb fb sb Eb cap cn k E st) (hb : Below X wq wz) (hX : Eb < X) : Rs w wz B Mb gb nb cE nE N Gb fb sb Eb cap cn k E st := by
  have h1 := h.gf
  have h2 := h.fs
  have h3 := h.se
  have hc : ∀ i, wz.cell? ⟨sb + 1, i, none⟩ = wq.cell? ⟨sb + 1, i, none⟩ := fun i => hb.cell (p := ⟨sb + 1, i, none⟩) (by show sb + 1 < X; omega)
  exact ⟨h.cc.kept hb (by omega), h.ft.kept hb (by omega), h.rs.kept hb (by omega), h.re.kept hb hX, (hc 0).trans h.c0, (hc 1).trans h.c1, (hc 2).trans h.c2, (hc 3).trans h.c3, (hc 4).trans h.c4, fun i => (hb.frozen (p := ⟨sb + 1, i, none⟩) (by show sb + 1 < X; omega)).trans (h.cfz i), h.len, h.gf, h.fs, h.se⟩
theorem Rs.put {w wq : World} {B Mb gb nb cE nE N Gb fb sb Eb cap : Nat} {cn : Nat → Nat → Nat} {k : KP} {E : List En} {st : Plain.St} (h : Rs w wq B Mb gb nb cE nE N Gb fb sb Eb cap cn k E st) (i : Nat) (hi : i < cap) (x : Plain.Side) : Rs w (put5 wq sb i x) B Mb gb nb cE nE N Gb fb sb Eb cap cn k E { st with sides := st.sides.set i x } := by
  have h1 := h.gf
  have h2 := h.fs
  have h3 := h.se
  have hc : ∀ j, (put5 wq sb i x).cell? ⟨sb + 1, j, none⟩ = wq.cell? ⟨sb + 1, j, none⟩ := fun j => put5_other x (by omega)
  exact ⟨h.cc.kept (X := sb) (put5_bel x (Below.refl _ _) (Nat.le_refl _)) (by omega), h.ft.kept (X := sb) (put5_bel x (Below.refl _ _) (Nat.le_refl _)) (by omega), h.rs.put i (by rw [h.len]; exact hi) x,
    ⟨fun j c hj hc => by rw [put5_other x (by omega)]; exact h.re.cell j c hj hc, fun j => by rw [put5_frozen]; exact h.re.fz j, by rw [put5_size]; exact h.re.lt⟩,
    (hc 0).trans h.c0, (hc 1).trans h.c1, (hc 2).trans h.c2, (hc 3).trans h.c3, (hc 4).trans h.c4, fun j => by rw [put5_frozen]; exact h.cfz j, by simpa using h.len, h.gf, h.fs, h.se⟩
theorem Rs.bnd {w wq : World} {B Mb gb nb cE nE N Gb fb sb Eb cap : Nat} {cn : Nat → Nat → Nat} {k : KP} {E : List En} {st : Plain.St} (h : Rs w wq B Mb gb nb cE nE N Gb fb sb Eb cap cn k E st) (v : Int) (hv : v = ((st.bnd + 1 : Nat) : Int)) : Rs w (wq.setCell ⟨sb + 1, 4, none⟩ (.int .i64 v)) B Mb gb nb cE nE N Gb fb sb Eb cap cn k E { st with bnd := st.bnd + 1 } := by
  subst hv
  have h1 := h.gf
  have h2 := h.fs
  have h3 := h.se
  have hb : Below (sb + 1) wq (wq.setCell ⟨sb + 1, 4, none⟩ (.int .i64 ((st.bnd + 1 : Nat) : Int))) := (Below.refl (sb + 1) wq).setCell (p := ⟨sb + 1, 4, none⟩) (Nat.le_refl _) _
  exact ⟨h.cc.kept hb (by omega), h.ft.kept hb (by omega), h.rs.other (by omega), h.re.other (by omega), by rw [World.cell?_setCell_other _ _ _ _ (by simp)]; exact h.c0, by rw [World.cell?_setCell_other _ _ _ _ (by simp)]; exact h.c1, by rw [World.cell?_setCell_other _ _ _ _ (by simp)]; exact h.c2, by rw [World.cell?_setCell_other _ _ _ _ (by simp)]; exact h.c3, World.cell?_setCell_same _ _ _ h.c4, fun j => by rw [World.frozen?_setCell]; exact h.cfz j, h.len, h.gf, h.fs, h.se⟩
theorem Rs.inn {w wq : World} {B Mb gb nb cE nE N Gb fb sb Eb cap : Nat} {cn : Nat → Nat → Nat} {k : KP} {E : List En} {st : Plain.St} (h : Rs w wq B Mb gb nb cE nE N Gb fb sb Eb cap cn k E st) (v : Int) (hv : v = ((st.inn + 1 : Nat) : Int)) : Rs w (wq.setCell ⟨sb + 1, 2, none⟩ (.int .i64 v)) B Mb gb nb cE nE N Gb fb sb Eb cap cn k E { st with inn := st.inn + 1 } := by
  subst hv
  have h1 := h.gf
  have h2 := h.fs
  have h3 := h.se
  have hb : Below (sb + 1) wq (wq.setCell ⟨sb + 1, 2, none⟩ (.int .i64 ((st.inn + 1 : Nat) : Int))) := (Below.refl (sb + 1) wq).setCell (p := ⟨sb + 1, 2, none⟩) (Nat.le_refl _) _
  exact ⟨h.cc.kept hb (by omega), h.ft.kept hb (by omega), h.rs.other (by omega), h.re.other (by omega), by rw [World.cell?_setCell_other _ _ _ _ (by simp)]; exact h.c0, by rw [World.cell?_setCell_other _ _ _ _ (by simp)]; exact h.c1, World.cell?_setCell_same _ _ _ h.c2, by rw [World.cell?_setCell_other _ _ _ _ (by simp)]; exact h.c3, by rw [World.cell?_setCell_other _ _ _ _ (by simp)]; exact h.c4, fun j => by rw [World.frozen?_setCell]; exact h.cfz j, h.len, h.gf, h.fs, h.se⟩

theorem cells_ZN (n i c : Nat) (hi : i < n) (hc : c < 5) : (madeCells ZN (n * 5))[i * 5 + c]? = (sideC (0, 0, 0))[c]? := by
  have hs : ZN.size = 5 := rfl
  rw [Array.getElem?_eq_getElem (by rw [size_madeCells]; omega)]
  simp only [madeCells, Array.getElem_map, Array.getElem_range, hs]
  rw [show (i * 5 + c) % 5 = c from by omega]
  rcases c with _ | _ | _ | _ | _ | c
  · rfl
  · rfl
  · rfl
  · rfl
  · rfl
  · omega
/-- The sides and the connectivity, new. -/
theorem Rs0 {w wr : World} {B Mb gb nb cE nE N Gb fb cap : Nat} {cn : Nat → Nat → Nat} {k : KP} (hc : Cc w wr B Mb gb nb cE nE N Gb cn k) (hf : Ft wr fb nE nE) (hG : Gb < fb) (w5 : World) (hw : w5 = (wr.alloc (.cells (madeCells ZN (cap * 5)) 33)).alloc (.cells #[.slice (some ⟨fb, 0, none⟩) (nE + 1) (nE + 1), .slice (some ⟨wr.heap.size, 0, none⟩) cap cap, .int .i64 0, .int .i64 0, .int .i64 0] 37)) :
    Cc w w5 B Mb gb nb cE nE N Gb cn k ∧ Ft w5 fb nE nE ∧ RS w5 wr.heap.size (List.replicate cap (0, 0, 0)) ∧ w5.cell? ⟨wr.heap.size + 1, 0, none⟩ = some (.slice (some ⟨fb, 0, none⟩) (nE + 1) (nE + 1)) ∧ w5.cell? ⟨wr.heap.size + 1, 1, none⟩ = some (.slice (some ⟨wr.heap.size, 0, none⟩) cap cap) ∧ w5.cell? ⟨wr.heap.size + 1, 2, none⟩ = some (.int .i64 0) ∧ w5.cell? ⟨wr.heap.size + 1, 3, none⟩ = some (.int .i64 0) ∧ w5.cell? ⟨wr.heap.size + 1, 4, none⟩ = some (.int .i64 0) ∧ (∀ i, w5.frozen? ⟨wr.heap.size + 1, i, none⟩ = false) ∧ Below wr.heap.size wr w5 ∧ w5.heap.size = wr.heap.size + 2 := by
  have b1 : Below wr.heap.size wr (wr.alloc (.cells (madeCells ZN (cap * 5)) 33)) := Below.alloc (Below.refl _ _) (Nat.le_refl _) _
  have b2 : Below (wr.heap.size + 1) (wr.alloc (.cells (madeCells ZN (cap * 5)) 33)) w5 := by rw [hw]; exact Below.alloc (Below.refl _ _) (by simp) _
  have b3 : Below wr.heap.size wr w5 := b1.trans (b2.mono (by omega))
  have hs : (wr.alloc (.cells (madeCells ZN (cap * 5)) 33)).heap.size = wr.heap.size + 1 := by simp
  have hcell : ∀ i, w5.cell? ⟨wr.heap.size + 1, i, none⟩ = (#[.slice (some ⟨fb, 0, none⟩) (nE + 1) (nE + 1), .slice (some ⟨wr.heap.size, 0, none⟩) cap cap, .int .i64 0, .int .i64 0, .int .i64 0] : Array Value)[i]? := fun i => by
    rw [hw, ← hs]; simp only [World.cell?]; rw [heap_alloc_new]; rfl
  have hfz : ∀ i, w5.frozen? ⟨wr.heap.size + 1, i, none⟩ = false := fun i => by
    rw [hw, ← hs]; simp only [World.frozen?]; rw [heap_alloc_new]; simp
  refine ⟨hc.kept b3 hc.hi, hf.kept b3 hf.lt, ⟨fun i c hi hcc => ?_, fun i => ?_, by rw [hw]; simp; omega⟩, hcell 0, hcell 1, hcell 2, hcell 3, hcell 4, hfz, b3, by rw [hw]; simp⟩
  · rw [b2.cell (p := ⟨wr.heap.size, i * 5 + c, none⟩) (by show wr.heap.size < wr.heap.size + 1; omega)]
    simp only [World.cell?]; rw [heap_alloc_new]
    rw [List.length_replicate] at hi
    have := cells_ZN cap i c hi hcc
    rw [show (List.replicate cap ((0, 0, 0) : Plain.Side)).getD i (0, 0, 0) = (0, 0, 0) from by simp [List.getD, List.getElem?_replicate, hi]]
    exact this
  · rw [b2.frozen (p := ⟨wr.heap.size, i, none⟩) (by show wr.heap.size < wr.heap.size + 1; omega)]
    simp only [World.frozen?]; rw [heap_alloc_new]; simp

theorem owns_cut {w : World} {base n c : Nat} {q : Option Addr} {xs : List Value} (h : w.ownsRow base 3 1 (.slice q n c) n xs) : w.ownsRow base 3 1 (.slice q 0 c) 0 [] := by
  obtain ⟨h1, h2⟩ := h
  refine ⟨rfl, ?_⟩
  rcases h2 with ⟨h2, h3⟩ | ⟨g, cap, cur, hv, hg, hh, hn, hm, hs, ht⟩
  · cases h2; exact .inl ⟨rfl, rfl⟩
  · cases hv; exact .inr ⟨g, _, cur, rfl, hg, hh, Nat.zero_le _, hm, hs, by simp⟩

namespace Plain
/-- A round of the runs: one face, or two. -/
theorem runsF_round (cn : Nat → Nat → Nat) (fuel : Nat) (E : List En) (i : Nat) (st fin : St) (h : runsF cn fuel (E.drop i) st = some fin) (hi : i < E.length) :
    (∃ f2, fuel = f2 + 1 ∧ ((i + 1 = E.length ∨ (i + 1 < E.length ∧ ¬ ((E.getD i En.z).k0 = (E.getD (i + 1) En.z).k0 ∧ (E.getD i En.z).k1 = (E.getD (i + 1) En.z).k1))) ∧ 4 * (E.getD i En.z).e + (E.getD i En.z).f < st.sides.length ∧ runsF cn f2 (E.drop (i + 1)) { st with sides := st.sides.set (4 * (E.getD i En.z).e + (E.getD i En.z).f) (-1, -1, 0), bnd := st.bnd + 1 } = some fin)) ∨
    (∃ f2, fuel = f2 + 1 ∧ i + 1 < E.length ∧ ((E.getD i En.z).k0 = (E.getD (i + 1) En.z).k0 ∧ (E.getD i En.z).k1 = (E.getD (i + 1) En.z).k1) ∧ (i + 2 = E.length ∨ (i + 2 < E.length ∧ ¬ ((E.getD i En.z).k0 = (E.getD (i + 2) En.z).k0 ∧ (E.getD i En.z).k1 = (E.getD (i + 2) En.z).k1))) ∧
      (4 * (E.getD i En.z).e + (E.getD i En.z).f < st.sides.length ∧ 4 * (E.getD (i + 1) En.z).e + (E.getD (i + 1) En.z).f < st.sides.length ∧ (E.getD i En.z).f < 4 ∧ (E.getD (i + 1) En.z).f < 4 ∧ cn (E.getD i En.z).e (E.getD i En.z).f = cn (E.getD (i + 1) En.z).e (((E.getD (i + 1) En.z).f + 1) % 4) ∧ cn (E.getD i En.z).e (((E.getD i En.z).f + 1) % 4) = cn (E.getD (i + 1) En.z).e (E.getD (i + 1) En.z).f ∧ cn (E.getD i En.z).e (E.getD i En.z).f ≠ cn (E.getD (i + 1) En.z).e (E.getD (i + 1) En.z).f) ∧
      runsF cn f2 (E.drop (i + 2)) { sides := (st.sides.set (4 * (E.getD i En.z).e + (E.getD i En.z).f) (((E.getD (i + 1) En.z).e : Int), ((E.getD (i + 1) En.z).f : Int), 1)).set (4 * (E.getD (i + 1) En.z).e + (E.getD (i + 1) En.z).f) (((E.getD i En.z).e : Int), ((E.getD i En.z).f : Int), 1), inn := st.inn + 1, bnd := st.bnd } = some fin) := by
  have hx : E.drop i = E.getD i En.z :: E.drop (i + 1) := by
    rw [List.drop_eq_getElem_cons hi]; congr 1; simp [List.getD, hi]
  rw [hx] at h
  generalize E.getD i En.z = x at *
  rcases fuel with _ | f2
  · simp [runsF] at h
  by_cases h1 : i + 1 < E.length
  · have hy : E.drop (i + 1) = E.getD (i + 1) En.z :: E.drop (i + 2) := by
      rw [List.drop_eq_getElem_cons h1]; congr 1; simp [List.getD, h1]
    rw [hy] at h
    generalize hyy : E.getD (i + 1) En.z = y at *
    simp only [runsF] at h
    by_cases hk : x.k0 = y.k0 ∧ x.k1 = y.k1
    · rw [if_pos hk] at h
      right
      refine ⟨f2, rfl, h1, hk, ?_⟩
      by_cases h2 : i + 2 < E.length
      · have hz : E.drop (i + 2) = E.getD (i + 2) En.z :: E.drop (i + 3) := by
          rw [List.drop_eq_getElem_cons h2]; congr 1; simp [List.getD, h2]
        rw [hz] at h
        by_cases hk2 : x.k0 = (E.getD (i + 2) En.z).k0 ∧ x.k1 = (E.getD (i + 2) En.z).k1
        · simp only [if_pos hk2] at h; cases h
        · simp only [if_neg hk2, Option.bind_some] at h
          rw [← hz] at h
          split at h
          · next hc => exact ⟨.inr ⟨h2, hk2⟩, hc, h⟩
          · cases h
      · have hz : E.drop (i + 2) = [] := List.drop_of_length_le (by omega)
        rw [hz] at h
        simp only [Option.bind_some] at h
        rw [← hz] at h
        split at h
        · next hc => exact ⟨.inl (by omega), hc, h⟩
        · cases h
    · rw [if_neg hk] at h
      left
      refine ⟨f2, rfl, .inr ⟨h1, hk⟩, ?_⟩
      split at h
      · next hc => rw [hy]; exact ⟨hc, h⟩
      · cases h
  · have hy : E.drop (i + 1) = [] := List.drop_of_length_le (by omega)
    rw [hy] at h
    simp only [runsF] at h
    left
    refine ⟨f2, rfl, .inl (by omega), ?_⟩
    split at h
    · next hc => rw [hy]; exact ⟨hc, by simpa [runsF] using h⟩
    · cases h
end Plain
end Go.Proofs.YbulkcgjqFmt
