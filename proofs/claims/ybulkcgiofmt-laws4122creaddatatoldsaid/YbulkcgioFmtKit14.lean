import Derived.Test.YbulkcgioFmtKit13
namespace Go.Proofs.YbulkcgioFmt.Kit
set_option linter.unusedSimpArgs false
set_option linter.unusedVariables false
open Go.ChangeShapes Go.WideShapes Go.ChangeAt Go.RowKit

/-- The four new blocks. -/
def four (wc : World) (a : Option Addr) (n cap : Nat) (dd : Array Value) : World :=
  ((((wc.alloc (.cells #[.slice a n cap, .int .i64 0, .int .i64 (-1)] 48)).alloc (.cells #[.slice (some ⟨wc.heap.size + 1 + 1, 0, none⟩) 4096 4096, .iface 27 (.pointer (some ⟨wc.heap.size, 0, none⟩)), .int .i64 0, .int .i64 0, .nilIface, .int .i64 (-1), .int .i64 (-1)] 53)).alloc (.cells (Z8 4096) 5)).alloc (.cells dd 37))

theorem four_below (wc : World) (a : Option Addr) (n cap : Nat) (dd : Array Value) : Below wc.heap.size wc (four wc a n cap dd) :=
  ((((Below.refl _ wc).alloc (Nat.le_refl _) _).alloc (by simp) _).alloc (by simp; omega) _).alloc (by simp; omega) _

theorem start_env (w wc : World) (a p0 : Option Addr) (n cap lp c0 : Nat) (z : List Int) (e0 e1 : Addr) (dd : Array Value) (hd0 : dd[0]? = some (.pointer (some ⟨wc.heap.size + 1, 0, none⟩))) (hd3 : dd[3]? = some (.slice p0 lp c0))
    (happ : App w wc p0 lp c0) (hsrc : Src w w.heap.size n a z) (hs : Sent w w.heap.size e0 e1) :
    Env (four wc a n cap dd) w.heap.size (wc.heap.size + 1) wc.heap.size (wc.heap.size + 1 + 1) (wc.heap.size + 1 + 1 + 1) n cap a z 0 e0 e1 ∧ Dat (four wc a n cap dd) w.heap.size (wc.heap.size + 1) wc.heap.size (wc.heap.size + 1 + 1) (wc.heap.size + 1 + 1 + 1) p0 lp c0 ∧ Below w.heap.size w (four wc a n cap dd) := by
  have hle : w.heap.size ≤ wc.heap.size := happ.below.size
  have hb4 := four_below wc a n cap dd
  have hb : Below w.heap.size w (four wc a n cap dd) := happ.below.trans (hb4.mono hle)
  have sz : (four wc a n cap dd).heap.size = wc.heap.size + 1 + 1 + 1 + 1 := by simp [four]
  refine ⟨⟨⟨0, 0, 0, -1, -1, -1, ⟨?_, ?_, ?_, ?_, ?_, ?_, ?_, ?_, ?_, ?_, ?_, ?_, ?_, ?_, ?_⟩, fun j hj => by omega, by omega, by omega, by omega, by omega⟩, hs.kept hb, ?_, ?_, by omega, by omega, by omega, by omega, by omega, by omega, by omega, by omega, by omega, by omega, by omega, by omega, by omega, by omega, by omega⟩, ⟨?_, happ.le, ?_⟩, hb⟩
  · simp [four, go_sem]
  · simp [four, go_sem]
  · simp [four, go_sem]
  · simp [four, go_sem]
  · simp [four, go_sem]
  · simp [four, go_sem]
  · simp [four, go_sem]
  · simp [four, go_sem]
  · simp [four, go_sem]
  · simp [four, go_sem]
  · intro i; simp [four, go_sem]
  · intro i; simp [four, go_sem]
  · intro i; simp [four, go_sem]
  · intro j hj
    have h := z8_cell ((wc.alloc (.cells #[.slice a n cap, .int .i64 0, .int .i64 (-1)] 48)).alloc (.cells #[.slice (some ⟨wc.heap.size + 1 + 1, 0, none⟩) 4096 4096, .iface 27 (.pointer (some ⟨wc.heap.size, 0, none⟩)), .int .i64 0, .int .i64 0, .nilIface, .int .i64 (-1), .int .i64 (-1)] 53)) 4096 j hj
    have asz : ∀ (v : World) (o : Obj), (v.alloc o).heap.size = v.heap.size + 1 := fun v o => by simp
    rw [asz, asz] at h
    unfold four
    rw [((Below.refl (wc.heap.size + 1 + 1 + 1) _).alloc (by simp) _).cell (p := ⟨wc.heap.size + 1 + 1, j, none⟩) (by show wc.heap.size + 1 + 1 < _; omega)]
    exact h
  · exact hsrc.kept hb
  · simp [four, go_sem, hd0]
  · intro i; simp [four, go_sem]
  · simp [four, go_sem, hd3]
  · rcases happ.ok with h | ⟨g, h0, h1, h2, h3, h4⟩
    · exact .inl h
    · exact .inr ⟨g, h0, h1, by omega, by omega, by omega, by omega, by omega, fun j hj => by rw [hb4.cell (p := ⟨g, j, none⟩) h2]; exact h3 j hj, fun i => by rw [hb4.frozen (p := ⟨g, i, none⟩) h2]; exact h4 i⟩
end Go.Proofs.YbulkcgioFmt.Kit
