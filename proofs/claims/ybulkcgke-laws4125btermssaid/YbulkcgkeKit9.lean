import Derived.Test.YbulkcgkeKit8
import Derived.Deep.RegionLaw
namespace Go.Proofs.Ybulkcgke
set_option linter.unusedSimpArgs false
set_option linter.unusedVariables false
open Go.ChangeShapes Go.WideShapes Go.ChangeAt Go.RowKit Go.Shelf Go.Lib

def noS : ByteArray := ⟨#[]⟩
def coS : ByteArray := ⟨#[99, 111, 111, 114, 100, 105, 110, 97, 116, 111, 114]⟩
def Zev : Value := .agg #[.int .u8 0, .int .i64 0, .string noS, .int .u64 0, .int .i64 0, .int .u64 0, .int .i64 0]
theorem info60 : (Yba.prog.info? 60).map (fun i => (i.zero, i.size, i.bytes)) = some (some Zev, 7, 64) := by kernel_rfl
/-- The three kinds of record. -/
def evS (to term : Int) : List Value := [.int .u8 1, .int .i64 to, .string coS, .int .u64 term, .int .i64 0, .int .u64 0, .int .i64 0]
def evC (term : Int) : List Value := [.int .u8 4, .int .i64 0, .string noS, .int .u64 term, .int .i64 0, .int .u64 0, .int .i64 0]
def evA (d : Int) : List Value := [.int .u8 2, .int .i64 0, .string noS, .int .u64 0, .int .i64 d, .int .u64 1, .int .i64 0]

/-- One record appended. -/
theorem wp_log {o : Oper} {a : Act} {w : World} {K : Act → World → Prop} {Q : Exit → Act → World → Prop} (s x : Operand)
    (ho : o.op = .call { callee := .builtin .append, args := #[s, x], argTypes := #[48, 48] })
    (base n c : Nat) (q : Option Addr) (xs : List Value) (hs : a.eval s = .slice q n c) (hown : w.ownsRow base 60 7 (.slice q n c) n xs)
    (ad : Addr) (ev : List Value) (hx : a.eval x = .slice (some ad) 1 1) (hl : ev.length = 7) (hnews : ∀ j u, ev[j]? = some u → w.cell? (ad.add j) = some u) (h1 : ∀ u ∈ ev, u.oneCell' = true)
    (hn : n ≤ 1000) (hbase : base ≤ w.heap.size)
    (h : ∀ g' c' w', w'.ownsRow base 60 7 (.slice (some ⟨g', 0, none⟩) (n + 1) c') (n + 1) (xs ++ ev) → w.grownBy w' (Value.ownBlock (.slice q n c)) → base ≤ g' → K (a.put o.dst (.slice (some ⟨g', 0, none⟩) (n + 1) c')) w') :
    o.wp Yba.prog a w K Q := by
  obtain ⟨i, hi, hz0, hz1, hz2⟩ := info_parts info60
  refine wp_append_own w s x 48 ho base 60 i Zev 7 64 Yba.underlying48 hi hz0 hz1 hz2 rfl (by decide) _ n xs hs hown ad 1 1 ev hx (by rw [hl]) hnews h1 (by unfold maxLen; omega) (by omega) hbase ?_
  intro v' w' h1 h2 h3
  rcases h1.2 with ⟨rfl, hz⟩ | ⟨g', cap', cur, rfl, hb, hrest⟩
  · omega
  · exact h g' cap' w' h1 h2 hb

theorem wpList_log {ops : Array Oper} {rest : List Oper} {o : Oper} {a : Act} {w : World} {Q : Exit → Act → World → Prop} (hgd : o.guard = none) (s x : Operand)
    (ho : o.op = .call { callee := .builtin .append, args := #[s, x], argTypes := #[48, 48] })
    (base n c : Nat) (q : Option Addr) (xs : List Value) (hs : a.eval s = .slice q n c) (hown : w.ownsRow base 60 7 (.slice q n c) n xs)
    (ad : Addr) (ev : List Value) (hx : a.eval x = .slice (some ad) 1 1) (hl : ev.length = 7) (hnews : ∀ j u, ev[j]? = some u → w.cell? (ad.add j) = some u) (h1 : ∀ u ∈ ev, u.oneCell' = true)
    (hn : n ≤ 1000) (hbase : base ≤ w.heap.size)
    (h : ∀ g' c' w', w'.ownsRow base 60 7 (.slice (some ⟨g', 0, none⟩) (n + 1) c') (n + 1) (xs ++ ev) → w.grownBy w' (Value.ownBlock (.slice q n c)) → base ≤ g' → wpList Yba.prog ops Q rest (a.put o.dst (.slice (some ⟨g', 0, none⟩) (n + 1) c')) w') :
    wpList Yba.prog ops Q (o :: rest) a w :=
  wpList_plain hgd fun _ hK => wp_log s x ho base n c q xs hs hown ad ev hx hl hnews h1 hn hbase fun g' c' w' h2 h3 h4 => hK _ _ (h g' c' w' h2 h3 h4)

theorem step_log {ops : Array Oper} {o : Oper} {a : Act} {w : World} {K : Act → World → Prop} {Q : Exit → Act → World → Prop} {E : Prop} (hgd : o.guard = none) (s x : Operand)
    (ho : o.op = .call { callee := .builtin .append, args := #[s, x], argTypes := #[48, 48] })
    (base n c : Nat) (q : Option Addr) (xs : List Value) (hs : a.eval s = .slice q n c) (hown : w.ownsRow base 60 7 (.slice q n c) n xs)
    (ad : Addr) (ev : List Value) (hx : a.eval x = .slice (some ad) 1 1) (hl : ev.length = 7) (hnews : ∀ j u, ev[j]? = some u → w.cell? (ad.add j) = some u) (h1 : ∀ u ∈ ev, u.oneCell' = true)
    (hn : n ≤ 1000) (hbase : base ≤ w.heap.size)
    (h : ∀ g' c' w', w'.ownsRow base 60 7 (.slice (some ⟨g', 0, none⟩) (n + 1) c') (n + 1) (xs ++ ev) → w.grownBy w' (Value.ownBlock (.slice q n c)) → base ≤ g' → K (a.put o.dst (.slice (some ⟨g', 0, none⟩) (n + 1) c')) w') :
    if Region.wanted o (yielded ops a.tmps) = true then Oper.wp Yba.prog o a w K Q else E := by
  have hw : Region.wanted o (yielded ops a.tmps) = true := by simp [Region.wanted, hgd]
  rw [if_pos hw]
  exact wp_log s x ho base n c q xs hs hown ad ev hx hl hnews h1 hn hbase h

/-- The log at Eb. -/
structure Lg (w : World) (Eb base n : Nat) (xs : List Value) : Prop where
  own : ∃ q c, w.cell? ⟨Eb, 0, none⟩ = some (.slice q n c) ∧ w.ownsRow base 60 7 (.slice q n c) n xs
  fz : w.frozen? ⟨Eb, 0, none⟩ = false
  lt : Eb < base
  le : base ≤ w.heap.size

/-- What a record leaves alone. -/
structure Kb (base Eb : Nat) (w w' : World) : Prop where
  os : w'.os = w.os
  tape : w'.tape = w.tape
  output : w'.output = w.output
  size : w.heap.size ≤ w'.heap.size
  block : ∀ k, k < base → k ≠ Eb → w'.heap[k]? = w.heap[k]?
theorem Kb.refl (base Eb : Nat) (w : World) : Kb base Eb w w := ⟨rfl, rfl, rfl, Nat.le_refl _, fun _ _ _ => rfl⟩
theorem Kb.trans {base Eb : Nat} {a b c : World} (h : Kb base Eb a b) (k : Kb base Eb b c) : Kb base Eb a c :=
  ⟨k.os.trans h.os, k.tape.trans h.tape, k.output.trans h.output, Nat.le_trans h.size k.size, fun j h1 h2 => (k.block j h1 h2).trans (h.block j h1 h2)⟩
theorem Kb.cell {base Eb : Nat} {w w' : World} (h : Kb base Eb w w') {x : Addr} (h1 : x.block < base) (h2 : x.block ≠ Eb) : w'.cell? x = w.cell? x := World.cell?_of_block (h.block _ h1 h2)
theorem Kb.frozen {base Eb : Nat} {w w' : World} (h : Kb base Eb w w') {x : Addr} (h1 : x.block < base) (h2 : x.block ≠ Eb) : w'.frozen? x = w.frozen? x := World.frozen?_of_block (h.block _ h1 h2)

/-- Behind the append and the store. -/
theorem Lg.step {w w1 w2 : World} {Eb base n c c' g' : Nat} {q : Option Addr} {xs ev : List Value} (hfz : w.frozen? ⟨Eb, 0, none⟩ = false) (hlt : Eb < base) (hle : base ≤ w.heap.size)
    (hown : w.ownsRow base 60 7 (.slice q n c) n xs) (hb : Below w.heap.size w w1)
    (hown2 : w2.ownsRow base 60 7 (.slice (some ⟨g', 0, none⟩) (n + 1) c') (n + 1) (xs ++ ev)) (hgrow : w1.grownBy w2 (Value.ownBlock (.slice q n c))) (hc2 : w2.cell? ⟨Eb, 0, none⟩ = some (.slice q n c)) :
    Lg (w2.setCell ⟨Eb, 0, none⟩ (.slice (some ⟨g', 0, none⟩) (n + 1) c')) Eb base (n + 1) (xs ++ ev) ∧ Kb base Eb w (w2.setCell ⟨Eb, 0, none⟩ (.slice (some ⟨g', 0, none⟩) (n + 1) c')) := by
  have hne : ∀ k, k < base → some k ≠ Value.ownBlock (.slice q n c) := fun k hk e => by
    have := (hown.lt k e.symm).1; omega
  have hbl : ∀ k, k < base → w2.heap[k]? = w.heap[k]? := fun k hk => (hgrow.block k (by have := hb.size; omega) (hne k hk)).trans (hb.block k (by omega))
  have hs := hgrow.size
  have hs1 := hb.size
  refine ⟨⟨⟨_, _, World.cell?_setCell_same _ _ _ hc2, ownsRow_setCell_below hown2 hlt _⟩, ?_, hlt, by simp [World.setCell]; omega⟩, ⟨?_, ?_, ?_, by simp [World.setCell]; omega, ?_⟩⟩
  · rw [World.frozen?_setCell, World.frozen?_of_block (w := w) (hbl _ hlt)]; exact hfz
  · exact hgrow.os.trans hb.os
  · exact hgrow.tape.trans hb.tape
  · exact hgrow.output.trans hb.output
  · intro k hk hke
    rw [Below.heap_setCell _ _ _ _ hke]; exact hbl k hk

/-- The old cell of the log, and its mark, behind the append. -/
theorem log_old {w w1 w2 : World} {Eb base n c : Nat} {q : Option Addr} {xs : List Value} (hc : w.cell? ⟨Eb, 0, none⟩ = some (.slice q n c)) (hfz : w.frozen? ⟨Eb, 0, none⟩ = false) (hlt : Eb < base) (hle : base ≤ w.heap.size)
    (hown : w.ownsRow base 60 7 (.slice q n c) n xs) (hb : Below w.heap.size w w1) (hgrow : w1.grownBy w2 (Value.ownBlock (.slice q n c))) :
    w2.cell? ⟨Eb, 0, none⟩ = some (.slice q n c) ∧ w2.frozen? ⟨Eb, 0, none⟩ = false := by
  have hne : some Eb ≠ Value.ownBlock (.slice q n c) := fun e => by
    have := (hown.lt Eb e.symm).1; omega
  have hbl : w2.heap[Eb]? = w.heap[Eb]? := (hgrow.block Eb (by have := hb.size; omega) hne).trans (hb.block Eb (by omega))
  exact ⟨(World.cell?_of_block (w := w) (a := ⟨Eb, 0, none⟩) hbl).trans hc, (World.frozen?_of_block (w := w) (a := ⟨Eb, 0, none⟩) hbl).trans hfz⟩

theorem ad_add (b k : Nat) : (⟨b, 0, none⟩ : Addr).add k = ⟨b, k, none⟩ := by unfold Addr.add; split <;> simp_all
theorem ev_cells (w : World) (v0 v1 v2 v3 v4 v5 v6 : Value) : ∀ j u, ([v0, v1, v2, v3, v4, v5, v6] : List Value)[j]? = some u → (w.alloc (.cells #[v0, v1, v2, v3, v4, v5, v6] 60)).cell? ((⟨w.heap.size, 0, none⟩ : Addr).add j) = some u := by
  intro j u h
  have hn := heap_alloc_new w (.cells #[v0, v1, v2, v3, v4, v5, v6] 60)
  rcases j with _ | _ | _ | _ | _ | _ | _ | j <;> simp at h <;> subst h <;> (rw [ad_add]; simp only [World.cell?]; rw [hn]; rfl)

set_option maxHeartbeats 1000000 in
/-- Send. -/
theorem Send_calls (Eb base n : Nat) (xs : List Value) (to term : Int) (w : World) (hL : Lg w Eb base n xs) (hn : n ≤ 1000) :
    Calls Yba.prog 73 #[.pointer (some ⟨Eb, 0, none⟩), .int .i64 to, .string coS, .int .u64 term] w fun e w' => e = .returned (.tuple #[]) ∧ Lg w' Eb base (n + 1) (xs ++ evS to term) ∧ Kb base Eb w w' := by
  obtain ⟨⟨q, c, hc, hown⟩, hfz, hlt, hle⟩ := hL
  have HOWN := hide' hown
  have HLE := hide' hle
  have HLT := hide' hlt
  have HN := hide' hn
  clear hown hle hlt hn
  go_enter Yba.func73, Yba.ntmps73
  go_wp2_with (at_builtin; refine wpList_log rfl _ _ rfl base n c q xs rfl (HOWN.out.alloc _) ⟨w.heap.size, 0, none⟩ (evS to term) rfl rfl (ev_cells w _ _ _ _ _ _ _) (by simp [evS, Value.oneCell']) HN.out (by simp; have := HLE.out; omega) ?_; intro g' c' w2 hown2 hgrow hbg; obtain ⟨c2, f2⟩ := log_old hc hfz HLT.out HLE.out HOWN.out (Below.alloc (Below.refl _ _) (Nat.le_refl _) _) hgrow; have HOWN2 := hide' hown2; have HG := hide' hgrow; clear hown2 hgrow hbg)
  go_end0
  exact ⟨rfl, Lg.step hfz HLT.out HLE.out HOWN.out (Below.alloc (Below.refl _ _) (Nat.le_refl _) _) HOWN2.out HG.out c2⟩

set_option maxHeartbeats 1000000 in
/-- CoordinatorChanged. -/
theorem Changed_calls (Eb base n : Nat) (xs : List Value) (term : Int) (w : World) (hL : Lg w Eb base n xs) (hn : n ≤ 1000) :
    Calls Yba.prog 71 #[.pointer (some ⟨Eb, 0, none⟩), .int .i64 0, .int .u64 term] w fun e w' => e = .returned (.tuple #[]) ∧ Lg w' Eb base (n + 1) (xs ++ evC term) ∧ Kb base Eb w w' := by
  obtain ⟨⟨q, c, hc, hown⟩, hfz, hlt, hle⟩ := hL
  have HOWN := hide' hown
  have HLE := hide' hle
  have HLT := hide' hlt
  have HN := hide' hn
  clear hown hle hlt hn
  go_enter Yba.func71, Yba.ntmps71
  go_wp2_with (at_builtin; refine wpList_log rfl _ _ rfl base n c q xs rfl (HOWN.out.alloc _) ⟨w.heap.size, 0, none⟩ (evC term) rfl rfl (ev_cells w _ _ _ _ _ _ _) (by simp [evC, Value.oneCell']) HN.out (by simp; have := HLE.out; omega) ?_; intro g' c' w2 hown2 hgrow hbg; obtain ⟨c2, f2⟩ := log_old hc hfz HLT.out HLE.out HOWN.out (Below.alloc (Below.refl _ _) (Nat.le_refl _) _) hgrow; have HOWN2 := hide' hown2; have HG := hide' hgrow; clear hown2 hgrow hbg)
  go_end0
  exact ⟨rfl, Lg.step hfz HLT.out HLE.out HOWN.out (Below.alloc (Below.refl _ _) (Nat.le_refl _) _) HOWN2.out HG.out c2⟩

set_option maxHeartbeats 1000000 in
/-- After. -/
theorem After_calls (Eb base n : Nat) (xs : List Value) (d : Int) (w : World) (hL : Lg w Eb base n xs) (hn : n ≤ 1000) :
    Calls Yba.prog 70 #[.pointer (some ⟨Eb, 0, none⟩), .int .i64 d, .agg #[.int .i64 0, .int .u64 1, .int .i64 0]] w fun e w' => e = .returned (.tuple #[]) ∧ Lg w' Eb base (n + 1) (xs ++ evA d) ∧ Kb base Eb w w' := by
  obtain ⟨⟨q, c, hc, hown⟩, hfz, hlt, hle⟩ := hL
  have HOWN := hide' hown
  have HLE := hide' hle
  have HLT := hide' hlt
  have HN := hide' hn
  clear hown hle hlt hn
  go_enter Yba.func70, Yba.ntmps70
  go_wp2_with fail
  have e1 := Below.alloc (Below.refl w.heap.size w) (Nat.le_refl _) (Obj.cells #[Value.int IntKind.i64 0, Value.int IntKind.u64 1, Value.int IntKind.i64 0] 77)
  have c1 := (e1.cell (p := ⟨Eb, 0, none⟩) (by show Eb < _; have := HLE.out; have := HLT.out; omega)).trans hc
  have f1 := (e1.frozen (p := ⟨Eb, 0, none⟩) (by show Eb < _; have := HLE.out; have := HLT.out; omega)).trans hfz
  have hlt := HLT.out
  have hle := HLE.out
  have c2 : ∀ o, ((w.alloc (Obj.cells #[Value.int IntKind.i64 0, Value.int IntKind.u64 1, Value.int IntKind.i64 0] 77)).alloc o).cell? ⟨Eb, 0, none⟩ = some (.slice q n c) := fun o => ((Below.alloc e1 e1.size o).cell (p := ⟨Eb, 0, none⟩) (by show Eb < _; omega)).trans hc
  have E1 := hide' e1
  clear e1 hlt hle
  go_region_law (refine step_log rfl _ _ rfl base n c q xs (by simp [Act.eval, Act.put]) ((HOWN.out.alloc _).drew.alloc _) ⟨_, 0, none⟩ (evA d) (by simp [Act.eval, Act.put]) rfl (ev_cells _ _ _ _ _ _ _ _) (by simp [evA, Value.oneCell']) HN.out (by simp; have := HLE.out; omega) ?_; intro g' c' w2 hown2 hgrow hbg; obtain ⟨c3, f3⟩ := log_old hc hfz HLT.out HLE.out HOWN.out (Below.alloc E1.out.drew E1.out.size _) hgrow; have HLS := hide' (Lg.step hfz HLT.out HLE.out HOWN.out (Below.alloc E1.out.drew E1.out.size _) hown2 hgrow c3); clear hown2 hgrow hbg)
  all_goals go_end0
  all_goals exact ⟨rfl, HLS.out⟩
end Go.Proofs.Ybulkcgke
