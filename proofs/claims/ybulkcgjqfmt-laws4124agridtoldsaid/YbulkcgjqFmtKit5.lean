import Derived.Test.YbulkcgjqFmtKit3
import Derived.Test.YbulkcgjqFmtKit4
import Derived.LaidEql
import Derived.WalkSpells
import Derived.Lib.SliceRun
namespace Go.Proofs.YbulkcgjqFmt
set_option linter.unusedSimpArgs false
set_option linter.unusedVariables false
open Go.ChangeShapes Go.WideShapes Go.ChangeAt Go.RowKit Go.Sort

/-- A mesh of quadrilaterals: cn e c: corner c of element e. -/
structure Mh (w : World) (B Mb gb nb cE nE N : Nat) (cn : Nat → Nat → Nat) : Prop where
  c0 : w.cell? ⟨Mb, 0, none⟩ = some (.int .i64 2)
  c1 : w.cell? ⟨Mb, 1, none⟩ = some (.slice (some ⟨nb, 0, none⟩) N N)
  c2 : w.cell? ⟨Mb, 2, none⟩ = some (.slice (some ⟨gb, 0, none⟩) nE cE)
  c3 : w.cell? ⟨Mb, 3, none⟩ = some (.slice none 0 0)
  c5 : w.cell? ⟨Mb, 5, none⟩ = some (.slice none 0 0)
  kind : ∀ e, e < nE → w.cell? ⟨gb, e * 11 + 2, none⟩ = some (.int .u8 4)
  corner : ∀ e c, e < nE → c < 4 → w.cell? ⟨gb, e * 11 + 3 + c, none⟩ = some (.int .i32 (cn e c : Nat))
  bM : Mb < B
  bg : gb < B
theorem Mh.kept {w w' : World} {B Mb gb nb cE nE N : Nat} {cn : Nat → Nat → Nat} (h : Mh w B Mb gb nb cE nE N cn) (hb : Below B w w') : Mh w' B Mb gb nb cE nE N cn :=
  ⟨(hb.cell (p := ⟨Mb, 0, none⟩) h.bM).trans h.c0, (hb.cell (p := ⟨Mb, 1, none⟩) h.bM).trans h.c1, (hb.cell (p := ⟨Mb, 2, none⟩) h.bM).trans h.c2, (hb.cell (p := ⟨Mb, 3, none⟩) h.bM).trans h.c3, (hb.cell (p := ⟨Mb, 5, none⟩) h.bM).trans h.c5,
   fun e he => (hb.cell (p := ⟨gb, e * 11 + 2, none⟩) h.bg).trans (h.kind e he), fun e c he hc => (hb.cell (p := ⟨gb, e * 11 + 3 + c, none⟩) h.bg).trans (h.corner e c he hc), h.bM, h.bg⟩

set_option maxRecDepth 10000 in
set_option maxHeartbeats 400000 in
theorem glued_calls (B Mb gb nb cE nE N : Nat) (cn : Nat → Nat → Nat) (w : World) (h : Mh w B Mb gb nb cE nE N cn) :
    Calls Ybaf.prog 23 #[.pointer (some ⟨Mb, 0, none⟩)] w fun e w' => e = .returned (.tuple #[.pointer (some ⟨w.heap.size, 0, none⟩), .nilIface]) ∧ Below w.heap.size w w' ∧ w'.cell? ⟨w.heap.size, 0, none⟩ = some (.pointer (some ⟨Mb, 0, none⟩)) ∧ w'.cell? ⟨w.heap.size, 1, none⟩ = some (.slice (some ⟨gb, 0, none⟩) nE cE) ∧ w'.cell? ⟨w.heap.size, 2, none⟩ = some (.slice none 0 0) ∧ w'.cell? ⟨w.heap.size, 3, none⟩ = some (.slice none 0 0) ∧ w.heap.size < w'.heap.size := by
  have c2 := h.c2
  have c3 := h.c3
  have c5 := h.c5
  clear h
  go_enter Ybaf.func23, Ybaf.ntmps23
  go_wp2_with fail
  go_region
  all_goals go_wp2_with fail
  all_goals go_ret2
  all_goals (
    have cc : ∀ k, ((w.alloc (Obj.cells #[Value.pointer (some { block := Mb, off := 0 }), Value.slice (some { block := gb, off := 0 }) nE cE, Value.slice none 0 0, Value.slice none 0 0, Value.float FloatKind.f64 0] 113)).drew).cell? ⟨w.heap.size, k, none⟩ = (#[Value.pointer (some { block := Mb, off := 0 }), Value.slice (some { block := gb, off := 0 }) nE cE, Value.slice none 0 0, Value.slice none 0 0, Value.float FloatKind.f64 0] : Array Value)[k]? := fun k => by
      show (w.alloc _).cell? _ = _
      simp only [World.cell?]; rw [heap_alloc_new]; rfl
    exact ⟨rfl, (Below.alloc (Below.refl _ _) (Nat.le_refl _) _).drew, cc 0, cc 1, cc 2, cc 3, by simp⟩)

theorem nil110 (w : World) : (binOp .eql 110 (.slice none 0 0) (.slice none 0 0)).run Ybaf.prog w = .ok (.bool true) w := Lib.run_eql_slice_nil w 110 _ none 0 0 0 0 Ybaf.underlying110

set_option maxRecDepth 10000 in
set_option maxHeartbeats 400000 in
theorem relate_calls (Gb : Nat) (x y : En) (w : World) (h : w.cell? ⟨Gb, 3, none⟩ = some (.slice none 0 0)) :
    Calls Ybaf.prog 28 #[.pointer (some ⟨Gb, 0, none⟩), .agg (enc x).toArray, .agg (enc y).toArray] w fun e w' => e = .returned (.int .u8 1) ∧ Below w.heap.size w w' := by
  unfold enc
  have hnil := nil110
  have h2 : ∀ a b, ((w.alloc a).alloc b).cell? ⟨Gb, 3, none⟩ = some (.slice none 0 0) := fun a b => by
    have hlt : Gb < w.heap.size := World.block_lt_of_cell? w _ h
    have b1 : Below w.heap.size w (w.alloc a) := Below.alloc (Below.refl _ _) (Nat.le_refl _) _
    exact ((Below.alloc b1 b1.size b).cell (p := ⟨Gb, 3, none⟩) hlt).trans h
  go_enter Ybaf.func28, Ybaf.ntmps28
  go_wp2_with fail
  go_ret
  have b1 := Below.alloc (Below.refl w.heap.size w) (Nat.le_refl _) (Obj.cells #[Value.int IntKind.i32 ↑x.k0, Value.int IntKind.i32 ↑x.k1, Value.int IntKind.i32 (-1), Value.int IntKind.i32 (-1), Value.int IntKind.i32 ↑x.e, Value.int IntKind.i32 ↑x.f] 117)
  exact ⟨rfl, Below.alloc b1 b1.size _⟩

theorem info3 : (Ybaf.prog.info? 3).map (fun i => (i.zero, i.size, i.bytes)) = some (some (.int .i64 0), 1, 8) := by kernel_rfl
/-- append onto the partners' row. -/
theorem wpList_pa {ops : Array Oper} {rest : List Oper} {o : Oper} {a : Act} {w : World} {Q : Exit → Act → World → Prop} (hgd : o.guard = none) (s x : Operand)
    (ho : o.op = .call { callee := .builtin .append, args := #[s, x], argTypes := #[70, 70] })
    (base m c : Nat) (q : Option Addr) (hs : a.eval s = .slice q 0 c) (hown : w.ownsRow base 3 1 (.slice q 0 c) 0 [])
    (ad : Addr) (ev : List Value) (hx : a.eval x = .slice (some ad) m m) (hl : ev.length = m) (hm : 0 < m) (hm2 : m ≤ 2) (hnews : ∀ j u, ev[j]? = some u → w.cell? (ad.add j) = some u) (h1 : ∀ u ∈ ev, u.oneCell' = true) (hbase : base ≤ w.heap.size)
    (h : ∀ g' c' w', w'.ownsRow base 3 1 (.slice (some ⟨g', 0, none⟩) m c') m ev → w.grownBy w' (Value.ownBlock (.slice q 0 c)) → base ≤ g' → wpList Ybaf.prog ops Q rest (a.put o.dst (.slice (some ⟨g', 0, none⟩) m c')) w') :
    wpList Ybaf.prog ops Q (o :: rest) a w := by
  obtain ⟨i, hi, hz0, hz1, hz2⟩ := info_parts info3
  refine wpList_append_own w hgd s x 70 ho base 3 i (.int .i64 0) 1 8 Ybaf.underlying70 hi hz0 hz1 hz2 rfl (by decide) _ 0 [] hs hown ad m m ev hx (by rw [hl]; omega) hnews h1 (by unfold maxLen; omega) (by omega) hbase ?_
  intro v' w' h1 h2 h3
  simp only [Nat.zero_add, List.nil_append] at h1
  rcases h1.2 with ⟨rfl, hz⟩ | ⟨g', cap', cur, rfl, hb, hrest⟩
  · omega
  · exact h g' cap' w' h1 h2 hb

theorem row1 (w : World) (v : Value) (t : TypeId) : ∀ j u, ([v] : List Value)[j]? = some u → (w.alloc (.cells #[v] t)).cell? ((⟨w.heap.size, 0, none⟩ : Addr).add j) = some u := by
  intro j u hu
  have hadd : (⟨w.heap.size, 0, none⟩ : Addr).add j = ⟨w.heap.size, j, none⟩ := by unfold Addr.add; split <;> simp_all
  rw [hadd]; simp only [World.cell?]; rw [heap_alloc_new]; simpa using hu
theorem row2 (w : World) (v v' : Value) (t : TypeId) : ∀ j u, ([v, v'] : List Value)[j]? = some u → (w.alloc (.cells #[v, v'] t)).cell? ((⟨w.heap.size, 0, none⟩ : Addr).add j) = some u := by
  intro j u hu
  have hadd : (⟨w.heap.size, 0, none⟩ : Addr).add j = ⟨w.heap.size, j, none⟩ := by unfold Addr.add; split <;> simp_all
  rw [hadd]; simp only [World.cell?]; rw [heap_alloc_new]; simpa using hu

def pairL (k : Nat) : List Value := if k = 1 then [.int .i64 (-1)] else [.int .i64 1, .int .i64 0]

set_option maxRecDepth 10000 in
set_option maxHeartbeats 400000 in
/-- pair of one face or of two, nothing glued. -/
theorem pair_calls (Gb base c k fc : Nat) (q fp : Option Addr) (w : World) (hk : k = 1 ∨ k = 2) (h : w.cell? ⟨Gb, 3, none⟩ = some (.slice none 0 0)) (hown : w.ownsRow base 3 1 (.slice q 0 c) 0 []) (hbase : base ≤ w.heap.size) :
    Calls Ybaf.prog 27 #[.pointer (some ⟨Gb, 0, none⟩), .slice fp k fc, .slice q 0 c] w fun e w' => ∃ g' c', e = .returned (.tuple #[.slice (some ⟨g', 0, none⟩) k c', .nilIface]) ∧ w'.ownsRow base 3 1 (.slice (some ⟨g', 0, none⟩) k c') k (pairL k) ∧ Below base w w' := by
  have HO := hide' hown
  have HB := hide' hbase
  clear hown hbase
  have hnil := nil110
  rcases hk with rfl | rfl
  · go_enter Ybaf.func27, Ybaf.ntmps27
    go_wp2_with (at_builtin; refine wpList_pa rfl _ _ rfl base 1 c q rfl (HO.out.alloc _) ⟨w.heap.size, 0, none⟩ (pairL 1) rfl rfl (by omega) (by omega) (row1 w _ 3) (by simp [pairL, Value.oneCell']) (by simp; have := HB.out; omega) ?_; intro g' c' w2 hown2 hgrow hbg; have HX := hide' (And.intro hown2 hgrow); clear hown2 hgrow hbg)
    go_ret2
    exact ⟨g', c', rfl, HX.out.1, (Below.alloc (Below.refl _ _) HB.out _).grown HX.out.2 (by have := HB.out; simp; omega) (fun k hk => (HO.out.lt k hk).1)⟩
  · go_enter Ybaf.func27, Ybaf.ntmps27
    go_wp2_with (at_builtin; refine wpList_pa rfl _ _ rfl base 2 c q rfl (HO.out.alloc _) ⟨w.heap.size, 0, none⟩ (pairL 2) rfl rfl (by omega) (by omega) (row2 w _ _ 3) (by simp [pairL, Value.oneCell']) (by simp; have := HB.out; omega) ?_; intro g' c' w2 hown2 hgrow hbg; have HX := hide' (And.intro hown2 hgrow); clear hown2 hgrow hbg)
    go_ret2
    exact ⟨g', c', rfl, HX.out.1, (Below.alloc (Below.refl _ _) HB.out _).grown HX.out.2 (by have := HB.out; simp; omega) (fun k hk => (HO.out.lt k hk).1)⟩
end Go.Proofs.YbulkcgjqFmt
