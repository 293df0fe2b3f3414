import Derived.Test.YbulkcgjqFmtKit
namespace Go.Proofs.YbulkcgjqFmt
set_option linter.unusedSimpArgs false
set_option linter.unusedVariables false
open Go.ChangeShapes Go.WideShapes Go.ChangeAt Go.RowKit Go.Sort

/-- An element of the grid: its cells. n: its first corner, ww: the nodes a row. -/
def elC (tag n ww : Nat) : List Value := [.int .i64 tag, .int .i64 0, .int .u8 4, .int .i32 n, .int .i32 ((n : Int) + 1), .int .i32 ((n : Int) + 1 + ww), .int .i32 ((n : Int) + ww), .int .i32 0, .int .i32 0, .int .i32 0, .int .i32 0]
def Zel : Value := .agg #[.int .i64 0, .int .i64 0, .int .u8 0, .int .i32 0, .int .i32 0, .int .i32 0, .int .i32 0, .int .i32 0, .int .i32 0, .int .i32 0, .int .i32 0]
theorem info48 : (Ybaf.prog.info? 48).map (fun i => (i.zero, i.size, i.bytes)) = some (some Zel, 11, 56) := by kernel_rfl
/-- The first k elements' cells. -/
def elsL (nx : Nat) : Nat → List Value
  | 0 => []
  | k + 1 => elsL nx k ++ elC k (k / nx * (nx + 1) + k % nx) (nx + 1)
theorem elsL_len (nx : Nat) : ∀ k, (elsL nx k).length = k * 11
  | 0 => rfl
  | k + 1 => by rw [elsL, List.length_append, elsL_len nx k]; simp [elC]; omega
theorem elsL_get (nx e c : Nat) (hc : c < 11) : ∀ k, e < k → (elsL nx k)[e * 11 + c]? = (elC e (e / nx * (nx + 1) + e % nx) (nx + 1))[c]?
  | 0, h => absurd h (by omega)
  | k + 1, h => by
    rw [elsL]
    by_cases hj : e < k
    · rw [List.getElem?_append_left (by rw [elsL_len]; omega)]; exact elsL_get nx e c hc k hj
    · obtain rfl : e = k := by omega
      rw [List.getElem?_append_right (by rw [elsL_len]; omega), elsL_len, show e * 11 + c - e * 11 = c from by omega]

theorem wpList_el {ops : Array Oper} {rest : List Oper} {o : Oper} {a : Act} {w : World} {Q : Exit → Act → World → Prop} (hgd : o.guard = none) (s x : Operand)
    (ho : o.op = .call { callee := .builtin .append, args := #[s, x], argTypes := #[40, 40] })
    (base n c : Nat) (q : Option Addr) (xs : List Value) (hs : a.eval s = .slice q n c) (hown : w.ownsRow base 48 11 (.slice q n c) n xs)
    (ad : Addr) (ev : List Value) (hx : a.eval x = .slice (some ad) 1 1) (hl : ev.length = 11) (hnews : ∀ j u, ev[j]? = some u → w.cell? (ad.add j) = some u) (h1 : ∀ u ∈ ev, u.oneCell' = true)
    (hn : n ≤ 1000) (hbase : base ≤ w.heap.size)
    (h : ∀ g' c' w', w'.ownsRow base 48 11 (.slice (some ⟨g', 0, none⟩) (n + 1) c') (n + 1) (xs ++ ev) → w.grownBy w' (Value.ownBlock (.slice q n c)) → base ≤ g' → wpList Ybaf.prog ops Q rest (a.put o.dst (.slice (some ⟨g', 0, none⟩) (n + 1) c')) w') :
    wpList Ybaf.prog ops Q (o :: rest) a w := by
  obtain ⟨i, hi, hz0, hz1, hz2⟩ := info_parts info48
  refine wpList_append_own w hgd s x 40 ho base 48 i Zel 11 56 Ybaf.underlying40 hi hz0 hz1 hz2 rfl (by decide) _ n xs hs hown ad 1 1 ev hx (by rw [hl]) hnews h1 (by unfold maxLen; omega) (by omega) hbase ?_
  intro v' w' h1 h2 h3
  rcases h1.2 with ⟨rfl, hz⟩ | ⟨g', cap', cur, rfl, hb, hrest⟩
  · omega
  · exact h g' cap' w' h1 h2 hb

theorem infoN : (Ybaf.prog.info? 164).map (fun i => (i.zero, i.size, i.bytes)) = some (some (.agg #[.float .f64 0, .float .f64 0, .float .f64 0]), 3, 24) := by kernel_rfl
theorem mk39 (n : Nat) (hn : n ≤ 1000) : ∃ ob, ∀ w : World, (Instr.makeSlice 39 (.int .i64 n) (.int .i64 n)).run Ybaf.prog w = .ok (.slice (some ⟨w.heap.size, 0, none⟩) n n) (w.alloc ob) := by
  obtain ⟨i, hi, hz0, hz1, hz2⟩ := info_parts infoN
  refine ⟨.cells (madeCells #[.float .f64 0, .float .f64 0, .float .f64 0] (n * i.size)) 164, fun w => ?_⟩
  have := run_make (P := Ybaf.prog) w 39 _ i _ Ybaf.underlying39 hi hz0 .i64 .i64 n n (by omega) (by omega) (by rw [hz2]; omega) (by omega)
  rw [Int.toNat_natCast] at this
  exact this

theorem eleven (w : World) (l : List Value) (h : l.length = 11) (t : TypeId) (arr : Array Value) (ha : arr = l.toArray) : ∀ j u, l[j]? = some u → (w.alloc (.cells arr t)).cell? ((⟨w.heap.size, 0, none⟩ : Addr).add j) = some u := by
  intro j u hu
  have hadd : (⟨w.heap.size, 0, none⟩ : Addr).add j = ⟨w.heap.size, j, none⟩ := by unfold Addr.add; split <;> simp_all
  rw [hadd]
  simp only [World.cell?]; rw [heap_alloc_new, ha]
  simpa using hu

/-- The grid as it is built: k elements. -/
structure Gr (w wr : World) (Mb k nx : Nat) (nb : Nat) (N : Nat) : Prop where
  c0 : wr.cell? ⟨Mb, 0, none⟩ = some (.int .i64 2)
  c1 : wr.cell? ⟨Mb, 1, none⟩ = some (.slice (some ⟨nb, 0, none⟩) N N)
  c2 : ∃ q c, wr.cell? ⟨Mb, 2, none⟩ = some (.slice q k c) ∧ wr.ownsRow (Mb + 1) 48 11 (.slice q k c) k (elsL nx k)
  c3 : wr.cell? ⟨Mb, 3, none⟩ = some (.slice none 0 0)
  c5 : wr.cell? ⟨Mb, 5, none⟩ = some (.slice none 0 0)
  fz : ∀ i, wr.frozen? ⟨Mb, i, none⟩ = false
  bel : Below w.heap.size w wr
  b : w.heap.size ≤ Mb
  lt : Mb < wr.heap.size

theorem Gr.start (w W1 W2 : World) (ob : Obj) (nx N : Nat) (e1 : W1 = w.alloc ob) (e2 : W2 = W1.alloc (.cells #[.int .i64 2, .slice (some ⟨w.heap.size, 0, none⟩) N N, .slice none 0 0, .slice none 0 0, .map none, .slice none 0 0] 44)) :
    Gr w W2 (w.heap.size + 1) 0 nx w.heap.size N := by
  have s1 : W1.heap.size = w.heap.size + 1 := by rw [e1]; simp
  have cc : ∀ i, W2.cell? ⟨w.heap.size + 1, i, none⟩ = (#[.int .i64 2, .slice (some ⟨w.heap.size, 0, none⟩) N N, .slice none 0 0, .slice none 0 0, .map none, .slice none 0 0] : Array Value)[i]? := fun i => by
    rw [e2, ← s1]; simp only [World.cell?]; rw [heap_alloc_new]; rfl
  have h1 : Below w.heap.size w W1 := by rw [e1]; exact Below.alloc (Below.refl _ _) (Nat.le_refl _) _
  refine ⟨cc 0, cc 1, ⟨_, _, cc 2, World.ownsRow_nil _ _ _ _⟩, cc 3, cc 5, fun i => ?_, ?_, by omega, by rw [e2]; simp [s1]⟩
  · rw [e2, ← s1]; simp only [World.frozen?]; rw [heap_alloc_new]; simp
  · rw [e2]; exact Below.alloc h1 h1.size _
theorem Gr.blk {w wr w2 : World} {Mb k nx nb N c : Nat} {q : Option Addr} {o : Obj} (h : Gr w wr Mb k nx nb N) (hown : wr.ownsRow (Mb + 1) 48 11 (.slice q k c) k (elsL nx k)) (hg : (wr.alloc o).grownBy w2 (Value.ownBlock (.slice q k c))) : ∀ b, b ≤ Mb → w2.heap[b]? = wr.heap[b]? := fun b hb => by
  have hlt := h.lt
  refine (hg.block b (by simp; omega) (fun e => ?_)).trans (Below.heap_alloc _ _ _ (by omega))
  have := (hown.lt b e.symm).1; omega
theorem Gr.old {w wr w2 : World} {Mb k nx nb N c : Nat} {q : Option Addr} {o : Obj} (h : Gr w wr Mb k nx nb N) (hc2 : wr.cell? ⟨Mb, 2, none⟩ = some (.slice q k c)) (hown : wr.ownsRow (Mb + 1) 48 11 (.slice q k c) k (elsL nx k)) (hg : (wr.alloc o).grownBy w2 (Value.ownBlock (.slice q k c))) :
    w2.cell? ⟨Mb, 2, none⟩ = some (.slice q k c) ∧ ∀ i, w2.frozen? ⟨Mb, i, none⟩ = false :=
  ⟨(World.cell?_of_block (a := ⟨Mb, 2, none⟩) (h.blk hown hg Mb (Nat.le_refl _))).trans hc2, fun i => (World.frozen?_of_block (a := ⟨Mb, i, none⟩) (h.blk hown hg Mb (Nat.le_refl _))).trans (h.fz i)⟩
theorem Gr.step {w wr w2 : World} {Mb t i nx nb N c c' g' p j : Nat} {q : Option Addr} {o : Obj} (h : Gr w wr Mb (t + i) nx nb N) (hc2 : wr.cell? ⟨Mb, 2, none⟩ = some (.slice q (t + i) c)) (hown : wr.ownsRow (Mb + 1) 48 11 (.slice q (t + i) c) (t + i) (elsL nx (t + i)))
    (hown2 : w2.ownsRow (Mb + 1) 48 11 (.slice (some ⟨g', 0, none⟩) (t + i + 1) c') (t + i + 1) (elsL nx (t + i) ++ elC (t + i) (p + i) (nx + 1))) (hg : (wr.alloc o).grownBy w2 (Value.ownBlock (.slice q (t + i) c))) (hp : p = j * (nx + 1)) (ht : t = j * nx) (hi : i < nx) :
    Gr w (w2.setCell ⟨Mb, 2, none⟩ (.slice (some ⟨g', 0, none⟩) (t + i + 1) c')) Mb (t + (i + 1)) nx nb N := by
  have bl := h.blk hown hg
  have co : ∀ k, k ≠ 2 → (w2.setCell ⟨Mb, 2, none⟩ (.slice (some ⟨g', 0, none⟩) (t + i + 1) c')).cell? ⟨Mb, k, none⟩ = wr.cell? ⟨Mb, k, none⟩ := fun k hk => by
    rw [World.cell?_setCell_other _ _ _ _ (by simp <;> omega), World.cell?_of_block (a := ⟨Mb, k, none⟩) (bl Mb (Nat.le_refl _))]
  have old := h.old hc2 hown hg
  have e1 : elsL nx (t + (i + 1)) = elsL nx (t + i) ++ elC (t + i) (p + i) (nx + 1) := by
    rw [show t + (i + 1) = (t + i) + 1 from by omega, elsL]
    have hd : (t + i) / nx = j := by rw [ht, Nat.add_comm, Nat.add_mul_div_right _ _ (by omega), Nat.div_eq_of_lt hi]; omega
    have hm : (t + i) % nx = i := by rw [ht, Nat.add_comm, Nat.add_mul_mod_self_right, Nat.mod_eq_of_lt hi]
    rw [hd, hm, ← hp]
  refine ⟨(co 0 (by decide)).trans h.c0, (co 1 (by decide)).trans h.c1, ⟨some ⟨g', 0, none⟩, c', World.cell?_setCell_same _ _ _ old.1, ?_⟩, (co 3 (by decide)).trans h.c3, (co 5 (by decide)).trans h.c5, fun k => by rw [World.frozen?_setCell]; exact old.2 k, ?_, h.b, ?_⟩
  · rw [e1]
    exact ownsRow_setCell_below hown2 (by show Mb < Mb + 1; omega) _
  · refine Below.setCell (p := ⟨Mb, 2, none⟩) ?_ h.b _
    have hs := hg.size
    have hl := h.lt
    exact h.bel.trans ⟨hg.os, hg.tape, hg.output, by simp at hs; omega, fun k hk => bl k (by have := h.b; omega)⟩
  · have hs := hg.size
    have hl := h.lt
    simp at hs ⊢; omega

set_option maxRecDepth 10000 in
set_option maxHeartbeats 1000000 in
theorem grid_calls (nx ny : Nat) (w : World) (hx : 1 ≤ nx ∧ nx ≤ 8) (hy : 1 ≤ ny ∧ ny ≤ 8) :
    Calls Ybaf.prog 8 #[.int .i64 nx, .int .i64 ny] w fun e w' => ∃ Mb nb, e = .returned (.pointer (some ⟨Mb, 0, none⟩)) ∧ Gr w w' Mb (nx * ny) nx nb ((nx + 1) * (ny + 1)) := by
  obtain ⟨hx1, hx2⟩ := hx
  obtain ⟨hy1, hy2⟩ := hy
  obtain ⟨N, hNN⟩ : ∃ N, N = (nx + 1) * (ny + 1) := ⟨_, rfl⟩
  have hN81 : N ≤ 81 := by rw [hNN]; have : (nx + 1) * (ny + 1) ≤ 9 * 9 := Nat.mul_le_mul (by omega) (by omega); omega
  have hN : wrap64 (((nx : Int) + 1) * ((ny : Int) + 1)) = (N : Int) := by
    have : ((nx : Int) + 1) * ((ny : Int) + 1) = ((N : Nat) : Int) := by rw [hNN]; push_cast; rfl
    rw [this]; unfold wrap64; omega
  obtain ⟨ob, hmk⟩ := mk39 N (by omega)
  have HNN := hide' hNN
  clear hNN
  go_enter Ybaf.func8, Ybaf.ntmps8
  go_wp2_with fail
  have HS := hide' (Gr.start w _ _ ob nx N rfl rfl)
  rw [hN]
  clear hN
  go_loopg [7] ny (fun g s7 wr => ∃ j : Nat, s7 = .int .i64 j ∧ j ≤ ny ∧ g = ny - j ∧ Hid (Gr w wr (w.heap.size + 1) (j * nx) nx w.heap.size N))
  case atStart => exact ⟨0, rfl, by omega, by omega, by rw [Nat.zero_mul]; exact HS.out⟩
  case round =>
    obtain ⟨j, rfl, hj, hg, HR⟩ := hrel
    have HG := hide' hg
    clear hg HS hmk
    by_cases hlt : j < ny
    · have hlt2 : decide ((j : Int) < ny) = true := by simp; omega
      obtain ⟨p, hp⟩ : ∃ p, p = j * (nx + 1) := ⟨_, rfl⟩
      have hp1 : (j : Int) * ((nx : Int) + 1) = (p : Int) := by rw [hp]; push_cast; rfl
      have hp2 : p ≤ 63 := by rw [hp]; have : j * (nx + 1) ≤ 7 * 9 := Nat.mul_le_mul (by omega) (by omega); omega
      obtain ⟨t, ht⟩ : ∃ t, t = j * nx := ⟨_, rfl⟩
      have ht1 : (j : Int) * (nx : Int) = (t : Int) := by rw [ht]; push_cast; rfl
      have ht2 : t ≤ 56 := by rw [ht]; have : j * nx ≤ 7 * 8 := Nat.mul_le_mul (by omega) (by omega); omega
      have HP := hide' (And.intro hp ht)
      rw [← ht] at HR
      clear hp ht
      go_wp2_with fail
      go_loopg [8] nx (fun g s8 wq => ∃ i : Nat, s8 = .int .i64 i ∧ i ≤ nx ∧ g = nx - i ∧ Hid (Gr w wq (w.heap.size + 1) (t + i) nx w.heap.size N))
      case atStart => exact ⟨0, rfl, by omega, by omega, HR.out⟩
      case round =>
        clear HR
        obtain ⟨i, rfl, hi, hg, HR⟩ := hrel
        have HG2 := hide' hg
        clear hg
        by_cases hlt3 : i < nx
        · have hlt4 : decide ((i : Int) < nx) = true := by simp; omega
          obtain ⟨q, c, hc2, hown⟩ := HR.out.c2
          have HO := hide' hown
          have HLT := hide' HR.out.lt
          clear hown
          go_wp2_with (at_builtin; refine wpList_el rfl _ _ rfl (w.heap.size + 1 + 1) (t + i) c q (elsL nx (t + i)) rfl (HO.out.alloc _) ⟨wr.heap.size, 0, none⟩ (elC (t + i) (p + i) (nx + 1)) rfl rfl (eleven wr _ rfl 48 _ (by simp [elC])) (by simp [elC, Value.oneCell']) (by omega) (by have := HLT.out; simp; omega) ?_; intro g' c' w2 hown2 hgrow hbg; have HST := hide' (HR.out.step hc2 HO.out hown2 hgrow HP.out.1 HP.out.2 hlt3); have hold := HR.out.old hc2 HO.out hgrow; obtain ⟨o2, of⟩ := hold; clear hown2 hgrow hbg)
          go_roundg (nx - (i + 1))
          case measure => have := HG2.out; omega
          case rel => exact ⟨i + 1, by push_cast; rfl, by omega, rfl, HST.out⟩
        · obtain rfl : i = nx := by omega
          have hlt4 : decide ((i : Int) < i) = false := by simp
          go_wp2_with fail
          go_roundg (ny - (j + 1))
          case measure => have := HG.out; omega
          case rel => exact ⟨j + 1, by push_cast; rfl, by omega, rfl, by rw [Nat.succ_mul, ← HP.out.2]; exact HR.out⟩
    · obtain rfl : j = ny := by omega
      have hlt2 : decide ((j : Int) < j) = false := by simp
      go_wp2_with fail
      go_ret
      exact ⟨_, _, rfl, by rw [Nat.mul_comm, ← HNN.out]; exact HR.out⟩
end Go.Proofs.YbulkcgjqFmt
