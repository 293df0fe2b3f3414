import Derived.Test.YbulkcgjqFmtKit3
import Derived.Test.YbulkcgjqFmtRows
import Derived.Lib.LaidU8
import Derived.OpenShut
import Derived.ChangeOld
import Derived.ChangeVars
namespace Go.Proofs.YbulkcgjqFmt
set_option linter.unusedSimpArgs false
set_option linter.unusedVariables false
open Go.ChangeShapes Go.WideShapes Go.ChangeAt Go.RowKit

theorem spot_none {w : World} {a : Addr} {v : Value} (h : w.cell? a = some v) : a = ⟨a.block, a.off, none⟩ := by
  obtain ⟨b, o, s⟩ := a
  cases s with
  | none => rfl
  | some s =>
    simp only [World.cell?] at h
    split at h
    · simp at h
    · cases h
theorem pick {H : Type} {xs : List (DataW H × List MemPlace)} {l : List (DataW H)} (h : l = xs.map (·.1)) {i : Nat} {d : DataW H} (hd : l[i]? = some d) : ∃ p, xs[i]? = some (d, p) := by
  rw [h, List.getElem?_map, Option.map_eq_some_iff] at hd
  obtain ⟨⟨d', p⟩, h1, h2⟩ := hd
  exact ⟨p, by rw [h1]; cases h2; rfl⟩
theorem cells3 : Ybaf.prog.cellsOf 3 = 1 := by kernel_rfl
theorem cells70 : Ybaf.prog.cellsOf 70 = 1 := by kernel_rfl
theorem cells140 : Ybaf.prog.cellsOf 140 = 1 := by kernel_rfl
theorem cells141 : Ybaf.prog.cellsOf 141 = 4 := by kernel_rfl
theorem int_at {W : World} {n : Nat} {a : Addr} {v : Int} {p : List MemPlace} (h : (W.cells? 0 a 1).bind (DataW.trod (fun _ => ()) Ybaf.prog W 0 (fun _ => true) false n 3) = some (.lit (.int .i64 v), p)) : W.cell? a = some (.int .i64 v) := by
  obtain ⟨c, h1, h2⟩ := Option.bind_eq_some_iff.1 h
  obtain ⟨z, rfl, h3, _⟩ := DataW.trod_int Ybaf.underlying3 h2
  cases h3
  exact cell_of_cells?_one h1
set_option maxRecDepth 100000 in
theorem inner {W : World} {n : Nat} {a : Addr} {v0 v1 : Int} {p : List MemPlace} (h : (W.cells? 0 a 1).bind (DataW.trod (fun _ => ()) Ybaf.prog W 0 (fun _ => true) false n 70) = some (.slice [.lit (.int .i64 v0), .lit (.int .i64 v1)] [], p)) :
    ∃ b o cp, W.cell? a = some (.slice (some ⟨b, o, none⟩) 2 cp) ∧ W.cell? ⟨b, o, none⟩ = some (.int .i64 v0) ∧ W.cell? ⟨b, o + 1, none⟩ = some (.int .i64 v1) := by
  obtain ⟨c, h1, h2⟩ := Option.bind_eq_some_iff.1 h
  rcases DataW.trod_slice Ybaf.underlying70 h2 with ⟨_, h3⟩ | ⟨b, len, cap, elems, rest, m, rfl, rfl, h3, _, _, _, hlen, hel, _, _⟩
  · cases h3
  · have h4 : [DataW.lit (.int .i64 v0), .lit (.int .i64 v1)] = elems.map (·.1) := by
      have := congrArg Prod.fst h3
      simp only [DataW.slice.injEq] at this
      exact this.1
    have hl : elems.length = 2 := by have := congrArg List.length h4; simpa using this.symm
    obtain ⟨p0, e0⟩ := pick h4 (i := 0) rfl
    obtain ⟨p1, e1⟩ := pick h4 (i := 1) rfl
    have g0 := hel 0 (by omega)
    have g1 := hel 1 (by omega)
    rw [e0, cells3] at g0
    rw [e1, cells3] at g1
    have q0 := int_at g0
    have q1 := int_at g1
    simp only [Addr.add] at q0 q1
    obtain ⟨bb, bo, bs⟩ := b
    have hs := spot_none q0
    simp at hs q0 q1
    subst hs
    obtain rfl : len = 2 := by omega
    exact ⟨bb, bo, cap, cell_of_cells?_one h1, q0, q1⟩
set_option maxRecDepth 100000 in
theorem kn_of {W : World} (h : laidMet Ybaf.prog Rows.lawS4124AGridRow.laid W) : ∃ k, Kn W W.heap.size k := by
  have hm : (Rows.lawS4124AGridSpec.vars.headD "", Rows.laid_example_com_seamline_seamline_kinds) ∈ Rows.lawS4124AGridRow.laid := List.mem_of_getElem? (i := 3) rfl
  obtain ⟨g, t, cs, fuel, p, hg, ht, hv, hd⟩ := Lib.laidMet.reads h hm
  have hg0 : Ybaf.prog.globalNamed (Rows.lawS4124AGridSpec.vars.headD "") = some 0 := by kernel_rfl
  obtain rfl := Option.some.inj (hg0.symm.trans hg)
  have ht0 : (Ybaf.prog.globals[0]?).map (·.type) = some 142 := by kernel_rfl
  obtain rfl := Option.some.inj (ht0.symm.trans ht)
  have hc := World.var?_cell hg hv
  obtain ⟨xs, m, rfl, hx, hl, hxl, hall⟩ := DataW.trod_array Ybaf.underlying142 hd
  have h4 := hall 4 (by omega)
  have e1 := congrArg Prod.fst hx
  simp only [Rows.laid_example_com_seamline_seamline_kinds, DataW.agg.injEq] at e1
  obtain ⟨p4, e4⟩ := pick e1 (i := 4) rfl
  rw [e4, cells141] at h4
  obtain ⟨ys, m2, rfl, hy, hyl, hyn, hyall⟩ := DataW.trod_struct Ybaf.underlying141 h4
  have e2 := congrArg Prod.fst hy
  simp only [DataW.agg.injEq] at e2
  have hcell : ∀ i v, i < 4 → (((cs.toList.drop (4 * 4)).take 4).drop i).take 1 = [v] → W.cell? ⟨0, 16 + i, none⟩ = some v := fun i v hi hh => by
    rw [hc, ← Array.getElem?_toList]
    have := congrArg (·[0]?) hh
    simpa [List.getElem?_take, List.getElem?_drop, hi] using this
  obtain ⟨q1, y1⟩ := pick e2 (i := 1) rfl
  obtain ⟨q2, y2⟩ := pick e2 (i := 2) rfl
  obtain ⟨q3, y3⟩ := pick e2 (i := 3) rfl
  have f1 : DataW.trod (fun _ => ()) Ybaf.prog W 0 (fun _ => true) false m2 3 ((((cs.toList.drop (4 * 4)).take 4).drop 1).take (Ybaf.prog.cellsOf 3)) = ys[1]? := hyall 1 _ rfl
  have f2 : DataW.trod (fun _ => ()) Ybaf.prog W 0 (fun _ => true) false m2 3 ((((cs.toList.drop (4 * 4)).take 4).drop 2).take (Ybaf.prog.cellsOf 3)) = ys[2]? := hyall 2 _ rfl
  have f3 : DataW.trod (fun _ => ()) Ybaf.prog W 0 (fun _ => true) false m2 140 ((((cs.toList.drop (4 * 4)).take 4).drop 3).take (Ybaf.prog.cellsOf 140)) = ys[3]? := hyall 3 _ rfl
  rw [y1] at f1
  rw [y2] at f2
  rw [y3] at f3
  rw [cells3] at f1 f2
  rw [cells140] at f3
  obtain ⟨z1, c1, d1, _⟩ := DataW.trod_int Ybaf.underlying3 f1
  cases d1
  obtain ⟨z2, c2, d2, _⟩ := DataW.trod_int Ybaf.underlying3 f2
  cases d2
  rcases DataW.trod_slice Ybaf.underlying140 f3 with ⟨_, h3⟩ | ⟨b, len, cap, elems, rest, m3, rfl, c3, h3, _, _, _, hlen, hel, _, _⟩
  · cases h3
  have e3 := congrArg Prod.fst h3
  simp only [DataW.slice.injEq] at e3
  have hl4 : elems.length = 4 := by have := congrArg List.length e3.1; simpa using this.symm
  have hrow : ∀ f, ∃ y : Nat × Nat × Nat, f < 4 → W.cell? (b.add f) = some (.slice (some ⟨y.1, y.2.1, none⟩) 2 y.2.2) ∧ W.cell? ⟨y.1, y.2.1, none⟩ = some (.int .i64 (f : Nat)) ∧ W.cell? ⟨y.1, y.2.1 + 1, none⟩ = some (.int .i64 ((f + 1) % 4 : Nat)) := fun f => by
    by_cases hf : f < 4
    · have g := hel f (by omega)
      rw [cells70, Nat.mul_one] at g
      rcases f with _ | _ | _ | _ | f
      · obtain ⟨pp, ee⟩ := pick e3.1 (i := 0) rfl
        rw [ee] at g
        obtain ⟨b, o, cp, r⟩ := inner g
        exact ⟨(b, o, cp), fun _ => r⟩
      · obtain ⟨pp, ee⟩ := pick e3.1 (i := 1) rfl
        rw [ee] at g
        obtain ⟨b, o, cp, r⟩ := inner g
        exact ⟨(b, o, cp), fun _ => r⟩
      · obtain ⟨pp, ee⟩ := pick e3.1 (i := 2) rfl
        rw [ee] at g
        obtain ⟨b, o, cp, r⟩ := inner g
        exact ⟨(b, o, cp), fun _ => r⟩
      · obtain ⟨pp, ee⟩ := pick e3.1 (i := 3) rfl
        rw [ee] at g
        obtain ⟨b, o, cp, r⟩ := inner g
        exact ⟨(b, o, cp), fun _ => r⟩
      · omega
    · exact ⟨(0, 0, 0), fun h => absurd h hf⟩
  obtain ⟨ff, hff⟩ : ∃ ff : Nat → Nat × Nat × Nat, ∀ f, f < 4 → W.cell? (b.add f) = some (.slice (some ⟨(ff f).1, (ff f).2.1, none⟩) 2 (ff f).2.2) ∧ W.cell? ⟨(ff f).1, (ff f).2.1, none⟩ = some (.int .i64 (f : Nat)) ∧ W.cell? ⟨(ff f).1, (ff f).2.1 + 1, none⟩ = some (.int .i64 ((f + 1) % 4 : Nat)) := ⟨fun f => Classical.choose (hrow f), fun f => Classical.choose_spec (hrow f)⟩
  have hb : b = ⟨b.block, b.off, none⟩ := spot_none (by simpa [Addr.add] using (hff 0 (by omega)).1)
  have hbf : ∀ f, b.add f = ⟨b.block, b.off + f, none⟩ := fun f => by
    unfold Addr.add
    split
    · next h0 => subst h0; exact hb
    · rfl
  obtain rfl : len = 4 := by omega
  have w17 : W.cell? ⟨0, 17, none⟩ = some (.int .i64 2) := hcell 1 _ (by omega) c1
  have w18 : W.cell? ⟨0, 18, none⟩ = some (.int .i64 4) := hcell 2 _ (by omega) c2
  have w19 : W.cell? ⟨0, 19, none⟩ = some (.slice (some b) 4 cap) := hcell 3 _ (by omega) c3
  rw [hb] at w19
  refine ⟨⟨b.block, b.off, cap, fun f => (ff f).1, fun f => (ff f).2.1, fun f => (ff f).2.2⟩, w17, w18, w19, fun f hf => ?_, fun f hf => (hff f hf).2.1, fun f hf => (hff f hf).2.2, block_lt_of_cell w17, ?_, fun f hf => block_lt_of_cell (hff f hf).2.1⟩
  · rw [← hbf f]; exact (hff f hf).1
  · have := (hff 0 (by omega)).1
    rw [hbf 0] at this
    exact block_lt_of_cell (a := ⟨b.block, b.off + 0, none⟩) this
end Go.Proofs.YbulkcgjqFmt
