import Derived.Test.YbulkcgioFmtKit4
namespace Go.Proofs.YbulkcgioFmt.Kit
set_option linter.unusedSimpArgs false
set_option linter.unusedVariables false
open Go.ChangeShapes Go.WideShapes Go.ChangeAt Go.RowKit

/-- The stream stands at pos. -/
def St (w : World) (N B R gb n cap0 : Nat) (a : Option Addr) (z : List Int) (pos : Nat) : Prop :=
  ∃ rr ww ii lb ls pr, Raw w N B R gb n cap0 a z rr ww ii lb ls pr ∧ Buf w gb rr ww pos z ∧ rr ≤ ww ∧ ww ≤ 4096 ∧ ii ≤ n ∧ pos + (ww - rr) = ii

/-- (*bufio.Reader).Read, something left. -/
theorem bufread_some (N B R gb gd od l c n cap0 pos : Nat) (a : Option Addr) (z : List Int) (w : World) (hpos : pos < n) (hnc : n ≤ cap0) (hn : n ≤ 16384) (hl : 0 < l) (hl2 : l ≤ 1000000)
    (ha : Apart N B R gb gd) (hz : ∀ j, 0 ≤ z.getD j 0 ∧ z.getD j 0 < 256) (hst : St w N B R gb n cap0 a z pos) (hd : ∀ j, j < l → (w.cell? ⟨gd, od + j, none⟩).isSome = true) (fD : ∀ i, w.frozen? ⟨gd, i, none⟩ = false) :
    Calls Ybaf.prog 32 #[.pointer (some ⟨B, 0, none⟩), .slice (some ⟨gd, od, none⟩) l c] w fun e w' => ∃ k : Nat, e = .returned (.tuple #[.int .i64 k, .nilIface]) ∧ 0 < k ∧ k ≤ l ∧ pos + k ≤ n ∧ St w' N B R gb n cap0 a z (pos + k) ∧ (∀ j, j < k → w'.cell? ⟨gd, od + j, none⟩ = some (.int .u8 (z.getD (pos + j) 0))) ∧ Fr w w' N B R gb gd od k := by
  obtain ⟨rr, ww, ii, lb, ls, pr, hraw, hbuf, h1, h2, h3, h4⟩ := hst
  by_cases hrw : rr < ww
  · have e1 : ∀ x y : Nat, Nat.min x y ≤ x ∧ Nat.min x y ≤ y ∧ (0 < x → 0 < y → 0 < Nat.min x y) := fun x y => ⟨Nat.min_le_left _ _, Nat.min_le_right _ _, fun h1 h2 => by rw [Nat.lt_min]; exact ⟨h1, h2⟩⟩
    obtain ⟨m1, m2, m3⟩ := e1 (ww - rr) l
    have m4 := m3 (by omega) hl
    refine (bufread_have N B R gb gd od l c n cap0 ii (Nat.min (ww - rr) l) pos rr ww a z pr lb ls w hrw h2 hl hl2 rfl ha hz hraw hbuf hd fD).mono ?_
    rintro e w' ⟨rfl, ⟨⟨lb', ls', pr', hraw'⟩, hdest, hfr⟩, hbuf'⟩
    exact ⟨_, rfl, m4, m2, by omega, ⟨_, _, _, _, _, _, hraw', hbuf', by omega, h2, h3, by omega⟩, hdest, hfr⟩
  · have e0 : rr = ww := by omega
    have e1 : pos = ii := by omega
    subst e0 e1
    by_cases hl4 : 4096 ≤ l
    · have m1 : Nat.min (n - pos) l ≤ n - pos := Nat.min_le_left _ _
      have m2 : Nat.min (n - pos) l ≤ l := Nat.min_le_right _ _
      have m3 : 0 < Nat.min (n - pos) l := by rw [Nat.lt_min]; omega
      refine (bufread_direct N B R gb gd od l c n cap0 pos (Nat.min (n - pos) l) a z pr lb ls rr w hpos hnc hn hl4 hl2 rfl ha hz hraw hd fD).mono ?_
      rintro e w' ⟨rfl, ⟨⟨lb', ls', pr', hraw'⟩, hdest, hfr⟩⟩
      exact ⟨_, rfl, m3, m2, by omega, ⟨_, _, _, _, _, _, hraw', fun j hj => by omega, by omega, h2, by omega, by omega⟩, hdest, hfr⟩
    · have m1 : Nat.min (n - pos) 4096 ≤ n - pos := Nat.min_le_left _ _
      have m2 : Nat.min (n - pos) 4096 ≤ 4096 := Nat.min_le_right _ _
      have m3 : 0 < Nat.min (n - pos) 4096 := by rw [Nat.lt_min]; omega
      have k1 : Nat.min (Nat.min (n - pos) 4096) l ≤ Nat.min (n - pos) 4096 := Nat.min_le_left _ _
      have k2 : Nat.min (Nat.min (n - pos) 4096) l ≤ l := Nat.min_le_right _ _
      have k3 : 0 < Nat.min (Nat.min (n - pos) 4096) l := by rw [Nat.lt_min]; omega
      refine (bufread_fill N B R gb gd od l c n cap0 pos (Nat.min (Nat.min (n - pos) 4096) l) (Nat.min (n - pos) 4096) a z pr lb ls rr w hpos hnc hn hl (by omega) rfl rfl ha hz hraw hd fD).mono ?_
      rintro e w' ⟨rfl, ⟨⟨lb', ls', pr', hraw'⟩, hdest, hfr⟩, hbuf'⟩
      exact ⟨_, rfl, k3, k2, by omega, ⟨_, _, _, _, _, _, hraw', hbuf', k1, m2, by omega, by omega⟩, hdest, hfr⟩

/-- (*bufio.Reader).Read at the stream's end. -/
theorem bufread_end (N B R gb gd od l c n cap0 pos : Nat) (a : Option Addr) (z : List Int) (e1 : Addr) (w : World) (hpos : n ≤ pos) (hn : n ≤ 16384) (hl : 0 < l) (hl2 : l ≤ 1000000)
    (ha : Apart N B R gb gd) (hst : St w N B R gb n cap0 a z pos) (h1B : 1 < N) (he : w.cell? ⟨1, 0, none⟩ = some (.iface 60 (.pointer (some e1)))) :
    Calls Ybaf.prog 32 #[.pointer (some ⟨B, 0, none⟩), .slice (some ⟨gd, od, none⟩) l c] w fun e w' => e = .returned (.tuple #[.int .i64 0, .iface 60 (.pointer (some e1))]) ∧ St w' N B R gb n cap0 a z pos ∧ Fr w w' N B R gb gd od 0 := by
  obtain ⟨rr, ww, ii, lb, ls, pr, hraw, hbuf, h1, h2, h3, h4⟩ := hst
  have e0 : rr = ww := by omega
  have e1 : pos = ii := by omega
  subst e0 e1
  by_cases hl4 : 4096 ≤ l
  · refine (bufread_eof1 N B R gb gd od l c n cap0 pos a z pr lb ls rr _ w hpos (by omega) hn hl4 hl2 ha hraw he).mono ?_
    rintro e w' ⟨rfl, ⟨⟨lb', ls', pr', hraw'⟩, hdest, hfr⟩⟩
    exact ⟨rfl, ⟨_, _, _, _, _, _, hraw', fun j hj => by omega, by omega, h2, by omega, by omega⟩, hfr⟩
  · refine (bufread_eof2 N B R gb gd od l c n cap0 pos a z pr lb ls rr _ w hpos (by omega) hn hl (by omega) ha hraw h1B he).mono ?_
    rintro e w' ⟨rfl, ⟨⟨lb', ls', pr', hraw'⟩, hdest, hfr⟩⟩
    exact ⟨rfl, ⟨_, _, _, _, _, _, hraw', fun j hj => by omega, by omega, by omega, by omega, by omega⟩, hfr⟩
end Go.Proofs.YbulkcgioFmt.Kit
