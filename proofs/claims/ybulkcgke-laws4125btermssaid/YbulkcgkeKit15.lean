import Derived.Test.YbulkcgkeKit13
import Derived.Carry
import Derived.Deep.DeepCutAuto
namespace Go.Proofs.Ybulkcgke
set_option linter.unusedSimpArgs false
set_option linter.unusedVariables false
open Go.ChangeShapes Go.WideShapes Go.ChangeAt Go.RowKit Go.Shelf Go.Lib

/-- The peers' row. -/
def peersA (nl nh : Nat) : Array Int := (Array.range (nl + nh)).map fun i => if i < nl then (i : Int) - nl else (i : Int) - nl + 1
theorem peersA_size (nl nh : Nat) : (peersA nl nh).size = nl + nh := by simp [peersA]
theorem peersA_get (nl nh i : Nat) (h : i < nl + nh) : (peersA nl nh)[i]! = if i < nl then (i : Int) - nl else (i : Int) - nl + 1 := by
  simp [peersA, h]
theorem peersA_up (nl nh a b : Nat) (hab : a ≤ b) (hb : b < nl + nh) : (peersA nl nh)[a]! ≤ (peersA nl nh)[b]! := by
  rw [peersA_get _ _ _ (by omega), peersA_get _ _ _ hb]
  split <;> split <;> omega
theorem peersA_count (nl nh : Nat) (x : Int) (hx : x = 0 ∨ x = 1) : (peersA nl nh).toList.countP (fun y => !decide (x ≤ y)) = nl := by
  have : (peersA nl nh).toList = (List.range nl).map (fun (i : Nat) => (i : Int) - nl) ++ (List.range nh).map (fun (i : Nat) => (i : Int) + 1) := by
    apply List.ext_getElem?
    intro i
    simp only [peersA, Array.toList_map, Array.toList_range]
    by_cases h : i < nl
    · rw [List.getElem?_append_left (by simpa using h)]
      simp [h, show i < nl + nh from by omega]
    · rw [List.getElem?_append_right (by simp; omega)]
      by_cases h2 : i < nl + nh
      · simp [h, h2, show i - nl < nh from by omega]; omega
      · simp [h2, show ¬ i - nl < nh from by omega]
  rw [this, List.countP_append, List.countP_map, List.countP_map]
  have e1 : ∀ i ∈ List.range nl, ((fun y => !decide (x ≤ y)) ∘ fun (i : Nat) => (i : Int) - nl) i = true := fun i hi => by
    have := List.mem_range.1 hi
    simp; omega
  have e2 : ∀ i ∈ List.range nh, ¬ ((fun y => !decide (x ≤ y)) ∘ fun (i : Nat) => (i : Int) + 1) i = true := fun i hi => by
    simp; omega
  rw [List.countP_eq_length.2 e1, List.countP_eq_zero.2 e2]
  simp

/-- The peers' row in memory. -/
def Pe (W : World) (Pb nl nh : Nat) : Prop := Pb < W.heap.size ∧ ∀ i, i < nl + nh → W.cell? ⟨Pb, i, none⟩ = some (.int .i64 (if i < nl then (i : Int) - nl else (i : Int) - nl + 1))
theorem Pe.kept {W W' : World} {Pb nl nh : Nat} (h : Pe W Pb nl nh) (hb : Below W.heap.size W W') : Pe W' Pb nl nh :=
  ⟨Nat.lt_of_lt_of_le h.1 hb.size, fun i hi => (hb.cell (p := ⟨Pb, i, none⟩) h.1).trans (h.2 i hi)⟩
theorem Pe.cells {W : World} {Pb nl nh : Nat} (h : Pe W Pb nl nh) : ∀ i, i < (peersA nl nh).size → W.cell? ⟨Pb, 0 + i, none⟩ = some (.int .i64 (peersA nl nh)[i]!) := fun i hi => by
  rw [peersA_size] at hi
  rw [peersA_get _ _ _ hi, Nat.zero_add]; exact h.2 i hi

theorem sorted_pe (W : World) (Pb nl nh cap : Nat) (h : Pe W Pb nl nh) (hnl : nl ≤ 255) (hnh : nh ≤ 255) :
    Calls Yba.prog 13 #[.slice (some ⟨Pb, 0, none⟩) (nl + nh) cap] W fun e w' => e = .returned (.bool true) ∧ Below W.heap.size W w' := by
  have := areSorted Pb 0 cap (peersA nl nh) W h.cells (by rw [peersA_size]; omega)
  rw [(downOK_iff _ _ _).2 (fun i hi => by rw [peersA_size] at hi; have := peersA_up nl nh i (i + 1) (by omega) (by omega); simp; omega), peersA_size] at this
  refine this.mono ?_
  rintro e w' ⟨rfl, q, rfl⟩
  exact ⟨rfl, rfl, rfl, rfl, Nat.le_refl _, fun _ _ => rfl⟩
theorem search_pe (W : World) (Pb nl nh cap : Nat) (x : Int) (hx : x = 0 ∨ x = 1) (h : Pe W Pb nl nh) (hnl : nl ≤ 255) (hnh : nh ≤ 255) :
    Calls Yba.prog 15 #[.slice (some ⟨Pb, 0, none⟩) (nl + nh) cap, .int .i64 x] W fun e w' => e = .returned (.int .i64 nl) ∧ Below W.heap.size W w' := by
  have := search Pb 0 cap (peersA nl nh) x W h.cells h.1 (by rw [peersA_size]; omega) (fun a b hab hb => by rw [peersA_size] at hb; exact peersA_up nl nh a b hab hb)
  rw [peersA_count nl nh x hx, peersA_size] at this
  exact this

/-- The new member. -/
structure Nw (W : World) (Nb Pb Eb d : Nat) (lo hi : Value) : Prop where
  c0 : W.cell? ⟨Nb, 0, none⟩ = some (.int .i64 0)
  c6 : W.cell? ⟨Nb, 6, none⟩ = some (.int .i64 d)
  c14 : W.cell? ⟨Nb, 14, none⟩ = some hi
  c15 : W.cell? ⟨Nb, 15, none⟩ = some lo
  c16 : W.cell? ⟨Nb, 16, none⟩ = some (.iface 28 (.pointer (some ⟨Eb, 0, none⟩)))
  c17 : W.cell? ⟨Nb, 17, none⟩ = some (.string { data := #[102, 111, 108, 108, 111, 119, 105, 110, 103] })
  c18 : W.cell? ⟨Nb, 18, none⟩ = some (.int .i64 0)
  c19 : W.cell? ⟨Nb, 19, none⟩ = some (.bool false)
  c20 : W.cell? ⟨Nb, 20, none⟩ = some (.int .u64 0)
  c21 : W.cell? ⟨Nb, 21, none⟩ = some (.int .u64 0)
  c22 : W.cell? ⟨Nb, 22, none⟩ = some (.int .u64 0)
  c24 : W.cell? ⟨Nb, 24, none⟩ = some (.slice none 0 0)
  c25 : W.cell? ⟨Nb, 25, none⟩ = some (.slice none 0 0)
  c26 : W.cell? ⟨Nb, 26, none⟩ = some (.int .i64 0)
  fz : ∀ i, W.frozen? ⟨Nb, i, none⟩ = false
  sN : Nb < W.heap.size
theorem Nw.kept {W W' : World} {Nb Pb Eb d : Nat} {lo hi : Value} (h : Nw W Nb Pb Eb d lo hi) (hb : Below W.heap.size W W') : Nw W' Nb Pb Eb d lo hi := by
  have c : ∀ i, W'.cell? ⟨Nb, i, none⟩ = W.cell? ⟨Nb, i, none⟩ := fun i => hb.cell (p := ⟨Nb, i, none⟩) h.sN
  exact ⟨(c _).trans h.c0, (c _).trans h.c6, (c _).trans h.c14, (c _).trans h.c15, (c _).trans h.c16, (c _).trans h.c17, (c _).trans h.c18, (c _).trans h.c19, (c _).trans h.c20, (c _).trans h.c21, (c _).trans h.c22, (c _).trans h.c24, (c _).trans h.c25, (c _).trans h.c26, fun i => (hb.frozen (p := ⟨Nb, i, none⟩) h.sN).trans (h.fz i), Nat.lt_of_lt_of_le h.sN hb.size⟩

def cfgC (Pb n cap d : Nat) : Array Value := #[.int .i64 0, .slice (some ⟨Pb, 0, none⟩) n cap, .int .i64 0, .int .i64 0, .int .i64 0, .int .i64 0, .int .i64 d, .int .i64 0, .bool false, .bool false, .bool false, .bool false, .int .i64 0, .int .i64 0]
def nodC (Pb n cap d Eb m : Nat) : Array Value := #[.int .i64 0, .slice (some ⟨Pb, 0, none⟩) n cap, .int .i64 0, .int .i64 0, .int .i64 0, .int .i64 0, .int .i64 d, .int .i64 0, .bool false, .bool false, .bool false, .bool false, .int .i64 0, .int .i64 0,
  .slice none 0 0, .slice none 0 0, .iface 28 (.pointer (some ⟨Eb, 0, none⟩)), .string { data := #[102, 111, 108, 108, 111, 119, 105, 110, 103] }, .int .i64 0, .bool false, .int .u64 0, .int .u64 0, .int .u64 0, .int .u64 0, .slice none 0 0, .slice none 0 0, .int .i64 0, .map (some m), .bool false, .bool false, .pointer none]

theorem cell_new (w : World) (cs : Array Value) (t : TypeId) (i : Nat) : (w.alloc (.cells cs t)).cell? ⟨w.heap.size, i, none⟩ = cs[i]? := by
  simp only [World.cell?]; rw [heap_alloc_new]; rfl
theorem frozen_new (w : World) (cs : Array Value) (t : TypeId) (i : Nat) : (w.alloc (.cells cs t)).frozen? ⟨w.heap.size, i, none⟩ = false := by
  simp only [World.frozen?]; rw [heap_alloc_new]; simp

/-- The world as New meets its first call. -/
theorem new_start (w : World) (Pb n cap d Eb : Nat) (o : Obj) (W1 W2 W3 : World) (e1 : W1 = w.alloc (.cells (cfgC Pb n cap d) 35)) (e2 : W2 = W1.alloc o) (e3 : W3 = W2.alloc (.cells (nodC Pb n cap d Eb (w.heap.size + 1)) 45)) :
    Nw W3 (w.heap.size + 1 + 1) Pb Eb d (.slice none 0 0) (.slice none 0 0) ∧ W3.cell? ⟨w.heap.size, 0, none⟩ = some (.int .i64 0) ∧ W3.cell? ⟨w.heap.size, 11, none⟩ = some (.bool false) ∧ Below w.heap.size w W3 ∧ W3.heap.size = w.heap.size + 1 + 1 + 1 := by
  have s1 : W1.heap.size = w.heap.size + 1 := by rw [e1]; simp
  have s2 : W2.heap.size = w.heap.size + 1 + 1 := by rw [e2]; simp [s1]
  have s3 : W3.heap.size = w.heap.size + 1 + 1 + 1 := by rw [e3]; simp [s2]
  have b1 : Below w.heap.size w W1 := by rw [e1]; exact Below.alloc (Below.refl _ _) (Nat.le_refl _) _
  have b2 : Below W1.heap.size W1 W2 := by rw [e2]; exact Below.alloc (Below.refl _ _) (Nat.le_refl _) _
  have b3 : Below W2.heap.size W2 W3 := by rw [e3]; exact Below.alloc (Below.refl _ _) (Nat.le_refl _) _
  have k : ∀ i, W3.cell? ⟨w.heap.size, i, none⟩ = (cfgC Pb n cap d)[i]? := fun i => by
    rw [b3.cell (p := ⟨w.heap.size, i, none⟩) (by show w.heap.size < _; omega), b2.cell (p := ⟨w.heap.size, i, none⟩) (by show w.heap.size < _; omega), e1, cell_new]
  have c : ∀ i, W3.cell? ⟨w.heap.size + 1 + 1, i, none⟩ = (nodC Pb n cap d Eb (w.heap.size + 1))[i]? := fun i => by
    rw [e3, ← s2, cell_new]
  refine ⟨⟨c 0, c 6, c 14, c 15, c 16, c 17, c 18, c 19, c 20, c 21, c 22, c 24, c 25, c 26, fun i => by rw [e3, ← s2, frozen_new], by omega⟩, k 0, k 11, (b1.trans (b2.mono (by omega))).trans (b3.mono (by omega)), s3⟩

/-- What New carries from call to call. -/
structure Nf (w W : World) (Pb Eb nl nh d : Nat) (lo hi : Value) : Prop where
  nw : Nw W (w.heap.size + 1 + 1) Pb Eb d lo hi
  pe : Pe W Pb nl nh
  k0 : W.cell? ⟨w.heap.size, 0, none⟩ = some (.int .i64 0)
  k11 : W.cell? ⟨w.heap.size, 11, none⟩ = some (.bool false)
  bel : Below w.heap.size w W
  lt : Pb < w.heap.size
theorem Nf.kept {w W W' : World} {Pb Eb nl nh d : Nat} {lo hi : Value} (h : Nf w W Pb Eb nl nh d lo hi) (hb : Below W.heap.size W W') : Nf w W' Pb Eb nl nh d lo hi := by
  have hs := h.nw.sN
  exact ⟨h.nw.kept hb, h.pe.kept hb, (hb.cell (p := ⟨w.heap.size, 0, none⟩) (by show w.heap.size < _; omega)).trans h.k0, (hb.cell (p := ⟨w.heap.size, 11, none⟩) (by show w.heap.size < _; omega)).trans h.k11, h.bel.trans (hb.mono h.bel.size), h.lt⟩

theorem Nf.stored {w W : World} {Pb Eb nl nh d : Nat} {lo hi : Value} (h : Nf w W Pb Eb nl nh d lo hi) (lo' hi' : Value) :
    Nf w ((W.setCell ⟨w.heap.size + 1 + 1, 15, none⟩ lo').setCell ⟨w.heap.size + 1 + 1, 14, none⟩ hi').drew Pb Eb nl nh d lo' hi' := by
  have c : ∀ i, i ≠ 14 → i ≠ 15 → ((W.setCell ⟨w.heap.size + 1 + 1, 15, none⟩ lo').setCell ⟨w.heap.size + 1 + 1, 14, none⟩ hi').drew.cell? ⟨w.heap.size + 1 + 1, i, none⟩ = W.cell? ⟨w.heap.size + 1 + 1, i, none⟩ := fun i h1 h2 => by
    show ((W.setCell ⟨w.heap.size + 1 + 1, 15, none⟩ lo').setCell ⟨w.heap.size + 1 + 1, 14, none⟩ hi').cell? _ = _
    rw [World.cell?_setCell_other _ _ _ _ (by simp <;> omega), World.cell?_setCell_other _ _ _ _ (by simp <;> omega)]
  have b : ∀ k, k ≠ w.heap.size + 1 + 1 → ((W.setCell ⟨w.heap.size + 1 + 1, 15, none⟩ lo').setCell ⟨w.heap.size + 1 + 1, 14, none⟩ hi').drew.heap[k]? = W.heap[k]? := fun k hk => by
    show ((W.setCell ⟨w.heap.size + 1 + 1, 15, none⟩ lo').setCell ⟨w.heap.size + 1 + 1, 14, none⟩ hi').heap[k]? = _
    rw [Below.heap_setCell _ _ _ _ hk, Below.heap_setCell _ _ _ _ hk]
  have n := h.nw
  have hP : Pb < w.heap.size := h.lt
  have hsz : ((W.setCell ⟨w.heap.size + 1 + 1, 15, none⟩ lo').setCell ⟨w.heap.size + 1 + 1, 14, none⟩ hi').drew.heap.size = W.heap.size := by simp
  refine ⟨⟨(c 0 (by decide) (by decide)).trans n.c0, (c 6 (by decide) (by decide)).trans n.c6, ?_, ?_, (c 16 (by decide) (by decide)).trans n.c16, (c 17 (by decide) (by decide)).trans n.c17, (c 18 (by decide) (by decide)).trans n.c18, (c 19 (by decide) (by decide)).trans n.c19, (c 20 (by decide) (by decide)).trans n.c20, (c 21 (by decide) (by decide)).trans n.c21, (c 22 (by decide) (by decide)).trans n.c22, (c 24 (by decide) (by decide)).trans n.c24, (c 25 (by decide) (by decide)).trans n.c25, (c 26 (by decide) (by decide)).trans n.c26, fun i => ?_, by rw [hsz]; exact n.sN⟩,
    ⟨by rw [hsz]; exact h.pe.1, fun i hi => (World.cell?_of_block (a := ⟨Pb, i, none⟩) (b Pb (by omega))).trans (h.pe.2 i hi)⟩, (World.cell?_of_block (a := ⟨w.heap.size, 0, none⟩) (b _ (by show w.heap.size ≠ _; omega))).trans h.k0, (World.cell?_of_block (a := ⟨w.heap.size, 11, none⟩) (b _ (by show w.heap.size ≠ _; omega))).trans h.k11, ?_, hP⟩
  · exact World.cell?_setCell_same _ _ _ (by rw [World.cell?_setCell_other _ _ _ _ (by simp)]; exact n.c14)
  · show ((W.setCell ⟨w.heap.size + 1 + 1, 15, none⟩ lo').setCell ⟨w.heap.size + 1 + 1, 14, none⟩ hi').cell? _ = _
    rw [World.cell?_setCell_other _ _ _ _ (by simp)]
    exact World.cell?_setCell_same _ _ _ n.c15
  · show ((W.setCell ⟨w.heap.size + 1 + 1, 15, none⟩ lo').setCell ⟨w.heap.size + 1 + 1, 14, none⟩ hi').frozen? _ = _
    rw [World.frozen?_setCell, World.frozen?_setCell]; exact n.fz i
  · exact ((h.bel.setCell (p := ⟨w.heap.size + 1 + 1, 15, none⟩) (by show w.heap.size ≤ w.heap.size + 1 + 1; omega) _).setCell (p := ⟨w.heap.size + 1 + 1, 14, none⟩) (by show w.heap.size ≤ w.heap.size + 1 + 1; omega) _).drew

theorem search_nf (w W : World) (Pb Eb nl nh cap d : Nat) (lo hi : Value) (x : Int) (hx : x = 0 ∨ x = 1) (h : Nf w W Pb Eb nl nh d lo hi) (hnl : nl ≤ 255) (hnh : nh ≤ 255) :
    Calls Yba.prog 15 #[.slice (some ⟨Pb, 0, none⟩) (nl + nh) cap, .int .i64 x] W fun e w' => e = .returned (.int .i64 nl) ∧ Hid (Nf w w' Pb Eb nl nh d lo hi) ∧ w'.cell? ⟨w.heap.size, 0, none⟩ = some (.int .i64 0) := by
  refine (search_pe W Pb nl nh cap x hx h.pe hnl hnh).mono ?_
  rintro e w' ⟨rfl, hb⟩
  exact ⟨rfl, h.kept hb, (h.kept hb).k0⟩

theorem search_nf' (w W : World) (Pb Eb nl nh n cap d : Nat) (lo hi : Value) (x : Int) (hx : x = 0 ∨ x = 1) (h : Nf w W Pb Eb nl nh d lo hi) (hnl : nl ≤ 255) (hnh : nh ≤ 255) (hn : n = nl + nh) :
    Calls Yba.prog 15 #[.slice (some ⟨Pb, 0, none⟩) n cap, .int .i64 x] W fun e w' => e = .returned (.int .i64 nl) ∧ Hid (Nf w w' Pb Eb nl nh d lo hi) ∧ w'.cell? ⟨w.heap.size, 0, none⟩ = some (.int .i64 0) := by
  subst hn; exact search_nf w W Pb Eb nl nh cap d lo hi x hx h hnl hnh
theorem sorted_pe' (W : World) (Pb nl nh n cap : Nat) (h : Pe W Pb nl nh) (hnl : nl ≤ 255) (hnh : nh ≤ 255) (hn : n = nl + nh) :
    Calls Yba.prog 13 #[.slice (some ⟨Pb, 0, none⟩) n cap] W fun e w' => e = .returned (.bool true) ∧ Below W.heap.size W w' := by
  subst hn; exact sorted_pe W Pb nl nh cap h hnl hnh

set_option maxRecDepth 10000 in
set_option maxHeartbeats 1000000 in
theorem New_calls (Pb Eb nl nh n cap d : Nat) (w : World) (hnl : nl ≤ 255) (hnh : nh ≤ 255) (hn : n = nl + nh) (hcap : n ≤ cap) (hpe : Pe w Pb nl nh) :
    Calls Yba.prog 9 #[.agg #[.int .i64 0, .slice (some ⟨Pb, 0, none⟩) n cap, .int .i64 0, .int .i64 0, .int .i64 0, .int .i64 0, .int .i64 d, .int .i64 0, .bool false, .bool false, .bool false, .bool false, .int .i64 0, .int .i64 0], .iface 28 (.pointer (some ⟨Eb, 0, none⟩))] w
      fun e w' => e = .returned (.pointer (some ⟨w.heap.size + 1 + 1, 0, none⟩)) ∧ (∃ ph, Nw w' (w.heap.size + 1 + 1) Pb Eb d (.slice (some ⟨Pb, 0, none⟩) nl nl) (.slice ph nh nh)) ∧ Below w.heap.size w w' := by
  have hmm := @run_makeMap Yba.prog
  have HB := hide' (And.intro hnl (And.intro hnh hn))
  have HPE := hide' hpe
  have hb4 : nl ≤ n := by omega
  have hb6 : n - nl = nh := by omega
  have hb7 : nl ≤ cap := by omega
  clear hnl hnh hpe hn
  go_enter Yba.func9, Yba.ntmps9
  go_wp2_with fail
  have hst := new_start w Pb n cap d Eb (Obj.map #[] 0) _ _ _ rfl rfl rfl
  unfold cfgC nodC at hst
  generalize (((w.alloc (Obj.cells _ 35)).alloc (Obj.map #[] 0)).alloc (Obj.cells _ 45)) = W3 at *
  obtain ⟨hn3, k0, k11, hb3, hs3⟩ := hst
  have hf3 : Nf w W3 Pb Eb nl nh d (.slice none 0 0) (.slice none 0 0) := ⟨hn3, ⟨by have := HPE.out.1; omega, fun i hi => (hb3.cell (p := ⟨Pb, i, none⟩) HPE.out.1).trans (HPE.out.2 i hi)⟩, k0, k11, hb3, HPE.out.1⟩
  refine (sorted_pe' W3 Pb nl nh n cap hf3.pe HB.out.1 HB.out.2.1 HB.out.2.2).mono ?_
  rintro e w4 ⟨rfl, hb4'⟩
  have hf4 := hf3.kept hb4'
  have HF4 := hide' hf4
  have HF4d := hide' (hf4.kept (Below.refl _ _).drew)
  have q0 := hf4.k0
  clear hn3 k0 k11 hb3 hs3 hf3 hb4' hf4 hmm HPE
  clear W3
  go_upto_region 6 with fail
  go_cut [7, 8] (fun s7 s8 wr => s7 = .int .i64 nl ∧ s8 = .int .i64 nl ∧ Hid (Nf w wr Pb Eb nl nh d (.slice none 0 0) (.slice none 0 0)))
  case first =>
    go_region_with (go_at_call 15; first | (refine (search_nf' w w5 Pb Eb nl nh n cap d _ _ _ (by first | exact .inl rfl | exact .inr rfl | exact .inr (by decide)) HF5.out HB.out.1 HB.out.2.1 HB.out.2.2).mono ?_; rintro e w6 ⟨rfl, HF6, q6⟩) | (refine (search_nf' w w4.drew Pb Eb nl nh n cap d _ _ _ (by first | exact .inl rfl | exact .inr rfl | exact .inr (by decide)) HF4d.out HB.out.1 HB.out.2.1 HB.out.2.2).mono ?_; rintro e w5 ⟨rfl, HF5, q5⟩))
    all_goals (
      go_wp2_with fail
      go_meet
      case rel => exact ⟨rfl, rfl, HF6⟩)
  case rest =>
    obtain ⟨rfl, rfl, HF6⟩ := hcut
    have c14 := HF6.out.nw.c14
    have c15 := HF6.out.nw.c15
    have fN := HF6.out.nw.fz
    clear HF4 HF4d q0
    clear w4
    go_upto_region 7 with fail
    go_cut [] (fun wr => Hid (∃ ph, Nf w wr Pb Eb nl nh d (.slice (some ⟨Pb, 0, none⟩) nl nl) (.slice ph nh nh)))
    case first =>
      obtain ⟨pq, hpq⟩ : ∃ pq, (if n = nl then some (⟨Pb, 0, none⟩ : Addr) else some ⟨Pb, nl, none⟩) = pq := ⟨_, rfl⟩
      go_region
      all_goals (
        (try rw [hpq])
        go_wp2_with fail
        go_meet
        case rel => exact ⟨_, HF6.out.stored _ _⟩)
    case rest =>
      obtain ⟨ph, hf7⟩ := hcut.out
      have q11 := hf7.k11
      have HF7 := hide' hf7
      clear hf7 HF6 c14 c15 fN
      go_wp2_with fail
      go_ret
      exact ⟨rfl, ⟨ph, HF7.out.nw⟩, HF7.out.bel⟩
end Go.Proofs.Ybulkcgke
