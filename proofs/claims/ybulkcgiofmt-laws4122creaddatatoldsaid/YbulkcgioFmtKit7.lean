import Derived.Test.YbulkcgioFmtKit6
namespace Go.Proofs.YbulkcgioFmt.Kit
set_option linter.unusedSimpArgs false
set_option linter.unusedVariables false
open Go.ChangeShapes Go.WideShapes Go.ChangeAt Go.RowKit

/-- The two sentinels: io.ErrUnexpectedEOF (variable 0), io.EOF (variable 1). -/
structure Sent (w : World) (N : Nat) (e0 e1 : Addr) : Prop where
  he0 : w.cell? ⟨0, 0, none⟩ = some (.iface 60 (.pointer (some e0)))
  he1 : w.cell? ⟨1, 0, none⟩ = some (.iface 60 (.pointer (some e1)))
  n1 : 1 < N
  b0 : ∃ c t, w.heap[e0.block]? = some (.cells c t (0, 0))
  b1 : ∃ c t, w.heap[e1.block]? = some (.cells c t (0, 0))
  l0 : e0.block < N
  l1 : e1.block < N
  ne : e0 ≠ e1
theorem Sent.kept {w w' : World} {N : Nat} {e0 e1 : Addr} (h : Sent w N e0 e1) (hb : Below N w w') : Sent w' N e0 e1 :=
  ⟨(hb.cell (p := ⟨0, 0, none⟩) (by have := h.n1; show 0 < N; omega)).trans h.he0, (hb.cell (p := ⟨1, 0, none⟩) h.n1).trans h.he1, h.n1, by rw [hb.block _ h.l0]; exact h.b0, by rw [hb.block _ h.l1]; exact h.b1, h.l0, h.l1, h.ne⟩

set_option maxHeartbeats 1000000 in
/-- io.ReadFull over the stream. -/
theorem readFull_all (N B R gb gd l c n cap0 pos : Nat) (a : Option Addr) (z : List Int) (e0 e1 : Addr) (w : World) (hpos : pos ≤ n) (hnc : n ≤ cap0) (hn : n ≤ 16384) (hl2 : l ≤ 1000000) (hlc : l ≤ c)
    (ha : Apart N B R gb gd) (hz : ∀ j, 0 ≤ z.getD j 0 ∧ z.getD j 0 < 256) (hst : St w N B R gb n cap0 a z pos) (hd : ∀ j, j < l → (w.cell? ⟨gd, j, none⟩).isSome = true) (fD : ∀ i, w.frozen? ⟨gd, i, none⟩ = false)
    (hs : Sent w N e0 e1) :
    Calls Ybaf.prog 14 #[.iface 25 (.pointer (some ⟨B, 0, none⟩)), .slice (some ⟨gd, 0, none⟩) l c] w fun e w' => 
      ∃ m : Nat, Hid (Mid w w' N B R gb gd n cap0 a z pos m) ∧ m ≤ l ∧ pos + m ≤ n ∧ ((m = l ∧ e = .returned (.tuple #[.int .i64 m, .nilIface])) ∨ (m < l ∧ pos + m = n ∧ m = 0 ∧ e = .returned (.tuple #[.int .i64 m, .iface 60 (.pointer (some e1))])) ∨ (m < l ∧ pos + m = n ∧ 0 < m ∧ e = .returned (.tuple #[.int .i64 m, .iface 60 (.pointer (some e0))]))) := by
  have hcall := readAtLeast_all N B R gb gd l c n cap0 pos a z e0 e1 w hpos hnc hn hl2 hlc ha hz hst hd fD hs.n1 hs.he0 hs.he1
  clear ha hz hst hd fD hs
  go_enter Ybaf.func14, Ybaf.ntmps14
  go_wp2_with fail
  refine hcall.mono ?_
  rintro e w' ⟨m, hM, h1, h2, ⟨h3, rfl⟩ | ⟨h3, h4, h5, rfl⟩ | ⟨h3, h4, h5, rfl⟩⟩
  · have HM := hide' hM
    clear hM hcall
    go_wp2_with fail
    go_ret2
    exact ⟨m, HM, h1, h2, .inl ⟨h3, by subst h3; rfl⟩⟩
  · have HM := hide' hM
    clear hM hcall
    go_wp2_with fail
    go_ret2
    exact ⟨m, HM, h1, h2, .inr (.inl ⟨h3, h4, h5, by subst h5; rfl⟩)⟩
  · have HM := hide' hM
    clear hM hcall
    go_wp2_with fail
    go_ret2
    exact ⟨m, HM, h1, h2, .inr (.inr ⟨h3, h4, h5, rfl⟩)⟩

set_option maxHeartbeats 1000000 in
/-- (*Reader).read over the stream: dest filled, or io.ErrUnexpectedEOF. -/
theorem read_all (N B R gb gd D l c n cap0 pos : Nat) (a : Option Addr) (z : List Int) (e0 e1 : Addr) (w : World) (hpos : pos ≤ n) (hnc : n ≤ cap0) (hn : n ≤ 16384) (hl2 : l ≤ 1000000) (hlc : l ≤ c)
    (ha : Apart N B R gb gd) (hz : ∀ j, 0 ≤ z.getD j 0 ∧ z.getD j 0 < 256) (hst : St w N B R gb n cap0 a z pos) (hd : ∀ j, j < l → (w.cell? ⟨gd, j, none⟩).isSome = true) (fD : ∀ i, w.frozen? ⟨gd, i, none⟩ = false)
    (hs : Sent w N e0 e1) (hD : w.cell? ⟨D, 0, none⟩ = some (.pointer (some ⟨B, 0, none⟩))) :
    Calls Ybaf.prog 10 #[.pointer (some ⟨D, 0, none⟩), .slice (some ⟨gd, 0, none⟩) l c] w fun e w' => 
      ∃ m : Nat, Hid (Mid w w' N B R gb gd n cap0 a z pos m) ∧ m ≤ l ∧ pos + m ≤ n ∧ ((m = l ∧ e = .returned .nilIface) ∨ (m < l ∧ pos + m = n ∧ e = .returned (.iface 60 (.pointer (some e0))))) := by
  have hcall := readFull_all N B R gb gd l c n cap0 pos a z e0 e1 w hpos hnc hn hl2 hlc ha hz hst hd fD hs
  have HS := hide' hs
  clear ha hz hst hd fD hs
  go_enter Ybaf.func10, Ybaf.ntmps10
  go_wp2_with fail
  refine hcall.mono ?_
  rintro e w' ⟨m, HM, h1, h2, h⟩
  have hs' := HS.out.kept HM.out.fr.below
  have g0 := hs'.he0
  have g1 := hs'.he1
  obtain ⟨_, _, q0⟩ := hs'.b0
  obtain ⟨_, _, q1⟩ := hs'.b1
  have hoth := eql_other e0 e1 w' hs'.ne q0 q1
  rcases h with ⟨h3, rfl⟩ | ⟨h3, h4, h5, rfl⟩ | ⟨h3, h4, h5, rfl⟩
  · clear hcall hs' q0 q1
    go_wp2_with fail
    go_ret
    exact ⟨m, HM, h1, h2, .inl ⟨h3, rfl⟩⟩
  · clear hcall hs' q0 q1
    go_wp2_with fail
    go_ret
    exact ⟨m, HM, h1, h2, .inr ⟨h3, h4, rfl⟩⟩
  · clear hcall hs' q0 q1
    go_wp2_with fail
    go_ret
    exact ⟨m, HM, h1, h2, .inr ⟨h3, h4, rfl⟩⟩
end Go.Proofs.YbulkcgioFmt.Kit
