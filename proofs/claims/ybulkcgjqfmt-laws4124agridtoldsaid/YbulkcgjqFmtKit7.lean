import Derived.Test.YbulkcgjqFmtKit5
namespace Go.Proofs.YbulkcgjqFmt
set_option linter.unusedSimpArgs false
set_option linter.unusedVariables false
open Go.ChangeShapes Go.WideShapes Go.ChangeAt Go.RowKit Go.Sort

set_option maxRecDepth 10000 in
set_option maxHeartbeats 1000000 in
/-- orientation of an edge against the same edge run the other way. -/
theorem orient_calls (B gb ea eb fa fb u v : Nat) (k : KP) (w : World) (hB : B ≤ w.heap.size) (hK : Kn w B k) (hg : gb < B) (hfa : fa < 4) (hfb : fb < 4) (ka : w.cell? ⟨gb, ea * 11 + 2, none⟩ = some (.int .u8 4)) (kb : w.cell? ⟨gb, eb * 11 + 2, none⟩ = some (.int .u8 4))
    (a0 : w.cell? ⟨gb, ea * 11 + 3 + fa, none⟩ = some (.int .i32 u)) (a1 : w.cell? ⟨gb, ea * 11 + 3 + (fa + 1) % 4, none⟩ = some (.int .i32 v)) (b0 : w.cell? ⟨gb, eb * 11 + 3 + fb, none⟩ = some (.int .i32 v)) (b1 : w.cell? ⟨gb, eb * 11 + 3 + (fb + 1) % 4, none⟩ = some (.int .i32 u)) (huv : u ≠ v) :
    Calls Ybaf.prog 29 #[.pointer (some ⟨gb, ea * 11, none⟩), .int .i32 fa, .pointer (some ⟨gb, eb * 11, none⟩), .int .i32 fb] w fun e w' => e = .returned (.tuple #[.int .u8 1, .bool true]) ∧ Below w.heap.size w w' := by
  have kf := hK.fac
  have ra := hK.row fa hfa
  have rb := hK.row fb hfb
  have ia0 := hK.i0 fa hfa
  have ia1 := hK.i1 fa hfa
  have ib0 := hK.i0 fb hfb
  have ib1 := hK.i1 fb hfb
  have hfa2 : (fa + 1) % 4 < 4 := Nat.mod_lt _ (by omega)
  have hfb2 : (fb + 1) % 4 < 4 := Nat.mod_lt _ (by omega)
  generalize (fa + 1) % 4 = fa' at *
  generalize (fb + 1) % 4 = fb' at *
  have huv2 : ((v : Int) != u) = true := by simp; omega
  have HB := hide' (And.intro hB (And.intro hK hg))
  clear hK hB
  go_enter Ybaf.func29, Ybaf.ntmps29
  go_wp2_with fail
  go_quiet (fail)
  go_wp2_with fail
  go_quiet (fail)
  go_wp2_with fail
  go_loopg [51] 1 (fun g s51 wr => ((s51 = .int .i64 0 ∧ g = 1) ∨ (s51 = .int .i64 1 ∧ g = 0)) ∧ Hid (∃ q, wr = w.drewN q))
  case atStart => exact ⟨.inl ⟨rfl, rfl⟩, _, rfl⟩
  case round =>
    obtain ⟨hcase, HW⟩ := hrel
    obtain ⟨q, rfl⟩ := HW.out
    clear HW
    rcases hcase with ⟨rfl, rfl⟩ | ⟨rfl, rfl⟩
    · go_wp2_with fail
      go_quiet (fail)
      go_wp2_with fail
      go_roundg 0
      case measure => omega
      case rel => exact ⟨.inr ⟨rfl, rfl⟩, _, rfl⟩
    · go_wp2_with fail
      go_quiet (fail)
      go_wp2_with fail
      go_loopg [17, 18] 1 (fun g s17 s18 wq => ((s17 = .int .i64 1 ∧ s18 = .int .i64 1 ∧ g = 1) ∨ (s17 = .int .i64 2 ∧ s18 = .int .i64 0 ∧ g = 0)) ∧ Hid (∃ q, wq = w.drewN q))
      case atStart => exact ⟨.inl ⟨rfl, rfl, rfl⟩, q + nq, by simp⟩
      case round =>
        obtain ⟨hcase, HW⟩ := hrel
        obtain ⟨q2, rfl⟩ := HW.out
        clear HW
        rcases hcase with ⟨rfl, rfl, rfl⟩ | ⟨rfl, rfl, rfl⟩
        · go_wp2_with fail
          go_quiet (fail)
          go_wp2_with fail
          go_roundg 0
          case measure => omega
          case rel => exact ⟨.inr ⟨rfl, rfl, rfl⟩, _, rfl⟩
        · go_wp2_with fail
          go_ret2
          exact ⟨rfl, rfl, rfl, rfl, Nat.le_refl _, fun _ _ => rfl⟩
end Go.Proofs.YbulkcgjqFmt
