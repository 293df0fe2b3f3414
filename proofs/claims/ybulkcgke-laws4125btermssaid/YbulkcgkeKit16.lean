import Derived.Test.YbulkcgkeKit15
namespace Go.Proofs.Ybulkcgke
set_option linter.unusedSimpArgs false
set_option linter.unusedVariables false
open Go.ChangeShapes Go.WideShapes Go.ChangeAt Go.RowKit Go.Shelf Go.Lib

def I (xs : List Int) : List Value := xs.map (Value.int .i64)
theorem I_app (a b : List Int) : I (a ++ b) = I a ++ I b := by simp [I]
theorem I_get (xs : List Int) (j : Nat) : (I xs)[j]? = (xs[j]?).map (Value.int .i64) := by simp [I]
theorem info3 : (Yba.prog.info? 3).map (fun i => (i.zero, i.size, i.bytes)) = some (some (.int .i64 0), 1, 8) := by kernel_rfl

/-- append of one int within the capacity. -/
theorem wpList_ap31 {ops : Array Oper} {rest : List Oper} {o : Oper} {a : Act} {w : World} {Q : Exit → Act → World → Prop} (hgd : o.guard = none) (s x : Operand)
    (ho : o.op = .call { callee := .builtin .append, args := #[s, x], argTypes := #[31, 31] })
    (base g k cap : Nat) (xs : List Int) (hs : a.eval s = .slice (some ⟨g, 0, none⟩) k cap) (hown : w.ownsRow base 3 1 (.slice (some ⟨g, 0, none⟩) k cap) k (I xs))
    (ad : Addr) (v : Int) (hx : a.eval x = .slice (some ad) 1 1) (hc : w.cell? ad = some (.int .i64 v)) (b1 : k + 1 ≤ cap)
    (h : ∀ w', w'.ownsRow base 3 1 (.slice (some ⟨g, 0, none⟩) (k + 1) cap) (k + 1) (I (xs ++ [v])) → w.grownBy w' (some g) → wpList Yba.prog ops Q rest (a.put o.dst (.slice (some ⟨g, 0, none⟩) (k + 1) cap)) w') :
    wpList Yba.prog ops Q (o :: rest) a w := by
  obtain ⟨i, hi, hz0, hz1, hz2⟩ := info_parts info3
  refine wpList_append_fits w hgd s x 31 ho base 3 i 1 Yba.underlying31 hi hz1 g k cap (I xs) hs hown ad 1 1 [.int .i64 v] hx rfl ?_ (by simp [Value.oneCell']) b1 ?_
  · intro j u hu
    rcases j with _ | j
    · simp at hu; subst hu
      have : ad.add 0 = ad := by simp [Addr.add]
      rw [this]; exact hc
    · simp at hu
  · intro w' h1 h2
    rw [I_app] at h
    exact h w' h1 h2

theorem mk31 (n : Nat) (hn : n ≤ 10000) (w : World) : (Instr.makeSlice 31 (.int .i64 0) (.int .i64 n)).run Yba.prog w = .ok (.slice (some ⟨w.heap.size, 0, none⟩) 0 n) (w.alloc (.cells (madeCells #[.int .i64 0] n) 3)) := by
  obtain ⟨i, hi, hz0, hz1, hz2⟩ := info_parts info3
  have := run_make (P := Yba.prog) w 31 3 i (.int .i64 0) Yba.underlying31 hi hz0 .i64 .i64 0 n (by omega) (by omega) (by rw [hz2]; omega) (by omega)
  rw [hz1] at this
  simpa [Value.cells] using this

/-- A row of ints of the call's own, and nothing below it turned. -/
structure Rw (w0 : World) (B : Nat) (wr : World) (g cap k : Nat) (xs : List Int) : Prop where
  own : wr.ownsRow B 3 1 (.slice (some ⟨g, 0, none⟩) k cap) k (I xs)
  bel : Below B w0 wr
  le : B ≤ wr.heap.size
theorem Rw.start (w0 : World) (n : Nat) (hn : n ≤ 10000) : Rw w0 w0.heap.size (w0.alloc (.cells (madeCells #[.int .i64 0] n) 3)) w0.heap.size n 0 [] :=
  ⟨World.ownsRow_made w0 _ n (Nat.le_refl _) (by unfold maxLen; omega) (by rw [size_madeCells]; omega), Below.alloc (Below.refl _ _) (Nat.le_refl _) _, by simp⟩
theorem Rw.step {w0 wr w' : World} {B g cap k : Nat} {xs : List Int} {v : Int} {o : Obj} (h : Rw w0 B wr g cap k xs) (hown : w'.ownsRow B 3 1 (.slice (some ⟨g, 0, none⟩) (k + 1) cap) (k + 1) (I (xs ++ [v]))) (hg : (wr.alloc o).grownBy w' (some g)) : Rw w0 B w' g cap (k + 1) (xs ++ [v]) := by
  refine ⟨hown, (Below.alloc h.bel h.le o).grown hg (by have := h.le; simp; omega) (fun j hj => ?_), by have := hg.size; have := h.le; simp at *; omega⟩
  cases hj
  exact (h.own.lt g rfl).1
theorem Rw.cell {w0 wr : World} {B g cap k : Nat} {xs : List Int} (h : Rw w0 B wr g cap k xs) (j : Nat) (v : Int) (hj : xs[j]? = some v) : wr.cell? ⟨g, j, none⟩ = some (.int .i64 v) := by
  have := h.own.cells (g := g) rfl j (.int .i64 v) (by rw [I_get, hj]; rfl)
  rwa [ad_add] at this

def lowL (nl k : Nat) : List Int := (List.range k).map fun (i : Nat) => (i : Int) - nl
def hiL (k : Nat) : List Int := (List.range k).map fun (i : Nat) => (i : Int) + 1
theorem lowL_succ (nl k : Nat) : lowL nl (k + 1) = lowL nl k ++ [(k : Int) - nl] := by simp [lowL, List.range_succ]
theorem hiL_succ (k : Nat) : hiL (k + 1) = hiL k ++ [(k : Int) + 1] := by simp [hiL, List.range_succ]

theorem one_cell (w : World) (v : Value) (t : TypeId) : (w.alloc (.cells #[v] t)).cell? ⟨w.heap.size, 0, none⟩ = some v := by rw [cell_new]; rfl

theorem pe_of {w wr : World} {nl nh n : Nat} (h : Rw w w.heap.size wr w.heap.size n (nl + nh) (lowL nl nl ++ hiL nh)) (hn : n = nl + nh) : Pe wr w.heap.size nl nh := by
  refine ⟨(h.own.lt w.heap.size rfl).2, fun i hi => ?_⟩
  refine h.cell i _ ?_
  by_cases hl : i < nl
  · rw [List.getElem?_append_left (by simpa [lowL] using hl)]
    simp [lowL, hl]
  · rw [List.getElem?_append_right (by simp [lowL]; omega)]
    simp [lowL, hiL, hl, show i - nl < nh from by omega]
    omega

set_option maxRecDepth 10000 in
set_option maxHeartbeats 1000000 in
theorem build_calls (nl nh d : Nat) (w : World) (hnl : nl ≤ 255) (hnh : nh ≤ 255) :
    Calls Yba.prog 4 #[.int .i64 nl, .int .i64 nh, .int .i64 d] w fun e w' => ∃ Nb Eb Pb ph, e = .returned (.tuple #[.pointer (some ⟨Nb, 0, none⟩), .pointer (some ⟨Eb, 0, none⟩)]) ∧ w.heap.size ≤ Pb ∧ Pb < Eb ∧ Eb < Nb ∧ Nw w' Nb Pb Eb d (.slice (some ⟨Pb, 0, none⟩) nl nl) (.slice ph nh nh) ∧ Pe w' Pb nl nh ∧ w'.cell? ⟨Eb, 0, none⟩ = some (.slice none 0 0) ∧ w'.frozen? ⟨Eb, 0, none⟩ = false ∧ Below w.heap.size w w' := by
  obtain ⟨n, hn⟩ : ∃ n, n = nl + nh := ⟨_, rfl⟩
  have hmk : ∀ w : World, (Instr.makeSlice 31 (.int .i64 0) (.int .i64 ((nl : Int) + nh))).run Yba.prog w = .ok (.slice (some ⟨w.heap.size, 0, none⟩) 0 n) (w.alloc (.cells (madeCells #[.int .i64 0] n) 3)) := fun w => by
    rw [show (nl : Int) + nh = ((n : Nat) : Int) from by omega]; exact mk31 n (by omega) w
  have HS := hide' (Rw.start w n (by omega))
  have HN := hide' hn
  clear hn
  go_enter Yba.func4, Yba.ntmps4
  go_wp2_with fail
  go_loopg [8, 9] nl (fun g s8 s9 wr => ∃ j : Nat, s8 = .slice (some ⟨w.heap.size, 0, none⟩) j n ∧ s9 = .int .i64 ((nl - j : Nat) : Int) ∧ j ≤ nl ∧ g = nl - j ∧ Hid (Rw w w.heap.size wr w.heap.size n j (lowL nl j)))
  case atStart => exact ⟨0, rfl, by simp, by omega, by omega, HS.out⟩
  case round =>
    obtain ⟨j, rfl, rfl, hjl, hg, HR⟩ := hrel
    clear HS hmk
    have HG := hide' hg
    clear hg
    by_cases hlt : j < nl
    · obtain ⟨x, hx⟩ : ∃ x, nl - j = x + 1 := ⟨nl - j - 1, by omega⟩
      have hx2 : (j : Int) - nl = -((x : Int) + 1) := by omega
      have hx3 : nl - (j + 1) = x := by omega
      have hx255 : x ≤ 255 := by omega
      rw [hx]
      have HX := hide' (And.intro hx (And.intro hx2 hx3))
      clear hx hx2 hx3
      go_wp2_with (at_builtin; refine wpList_ap31 rfl _ _ rfl w.heap.size w.heap.size j n (lowL nl j) rfl (HR.out.own.alloc _) ⟨wr.heap.size, 0, none⟩ _ rfl (one_cell wr _ 3) (by have := HN.out; omega) ?_; intro w2 hown hgr; have HR2 := hide' (HR.out.step hown hgr); clear hown hgr)
      go_roundg (nl - (j + 1))
      case measure => have := HG.out; omega
      case rel => exact ⟨j + 1, rfl, by rw [HX.out.2.2], by omega, rfl, by rw [lowL_succ, HX.out.2.1]; exact HR2.out⟩
    · obtain rfl : j = nl := by omega
      rw [Nat.sub_self]
      clear hlt hjl HG
      go_wp2_with fail
      go_loopg [8, 10] nh (fun g s8 s10 wr => ∃ i : Nat, s8 = .slice (some ⟨w.heap.size, 0, none⟩) (j + i) n ∧ s10 = .int .i64 ((i : Int) + 1) ∧ i ≤ nh ∧ g = nh - i ∧ Hid (Rw w w.heap.size wr w.heap.size n (j + i) (lowL j j ++ hiL i)))
      case atStart => exact ⟨0, rfl, by simp, by omega, by omega, by show Rw _ _ _ _ _ _ _; simpa [hiL] using HR.out⟩
      case round =>
        clear HR
        obtain ⟨i, rfl, rfl, hil, hg, HR⟩ := hrel
        have HG := hide' hg
        clear hg
        by_cases hlt : i < nh
        · have hlt2 : decide ((i : Int) + 1 ≤ nh) = true := by simp; omega
          have hlt3 : (i : Int) + 1 ≤ nh := by omega
          go_wp2_with (at_builtin; refine wpList_ap31 rfl _ _ rfl w.heap.size w.heap.size (j + i) n (lowL j j ++ hiL i) rfl (HR.out.own.alloc _) ⟨wr.heap.size, 0, none⟩ _ rfl (one_cell wr _ 3) (by have := HN.out; omega) ?_; intro w2 hown hgr; have HR2 := hide' (HR.out.step hown hgr); clear hown hgr)
          go_roundg (nh - (i + 1))
          case measure => have := HG.out; omega
          case rel => exact ⟨i + 1, rfl, by push_cast; rfl, by omega, rfl, by rw [hiL_succ, ← List.append_assoc]; exact HR2.out⟩
        · obtain rfl : i = nh := by omega
          have hlt2 : decide ((i : Int) + 1 ≤ i) = false := by simp; omega
          have hlt3 : ¬ ((i : Int) + 1 ≤ i) := by omega
          have hpe := pe_of HR.out HN.out
          have hcall := hide' (New_calls w.heap.size wr.heap.size j i n n d (wr.alloc (.cells #[.slice none 0 0] 50)) hnl hnh HN.out (Nat.le_refl _) (hpe.kept (Below.alloc (Below.refl _ _) (Nat.le_refl _) _)))
          rw [← HN.out]
          clear hlt hil HG
          go_wp2_with (go_at_call 9; refine hcall.out.mono ?_; rintro e w3 ⟨rfl, ⟨ph, h1⟩, h2⟩; have H1 := hide' h1; have H2 := hide' h2; clear h1 h2)
          go_ret2
          have hsz : (wr.alloc (.cells #[.slice none 0 0] 50)).heap.size = wr.heap.size + 1 := by simp
          have hbA := Below.alloc (Below.refl wr.heap.size wr) (Nat.le_refl _) (.cells #[.slice none 0 0] 50)
          have hlE : wr.heap.size < (wr.alloc (.cells #[.slice none 0 0] 50)).heap.size := by rw [hsz]; omega
          refine ⟨wr.heap.size + 1 + 1 + 1, wr.heap.size, w.heap.size, ph, rfl, Nat.le_refl _, hpe.1, by omega, ?_, (hpe.kept hbA).kept H2.out, ?_, ?_, ?_⟩
          · have := H1.out
            rw [hsz] at this
            exact this
          · exact (H2.out.cell (p := ⟨wr.heap.size, 0, none⟩) hlE).trans (one_cell wr _ 50)
          · exact (H2.out.frozen (p := ⟨wr.heap.size, 0, none⟩) hlE).trans (frozen_new wr _ 50 0)
          · exact (HR.out.bel.trans (hbA.mono HR.out.le)).trans (H2.out.mono (by rw [hsz]; have := HR.out.le; omega))
end Go.Proofs.Ybulkcgke
