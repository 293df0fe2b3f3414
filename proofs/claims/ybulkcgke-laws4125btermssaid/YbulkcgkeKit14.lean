import Derived.Test.YbulkcgkeKit12
import Derived.LaidEql
import Derived.WalkSpells
namespace Go.Proofs.Ybulkcgke
set_option linter.unusedSimpArgs false
set_option linter.unusedVariables false
open Go.ChangeShapes Go.WideShapes Go.ChangeAt Go.RowKit Go.Shelf Go.Lib

theorem sends_len (nl : Nat) (T : Int) : ∀ k, (sends nl T k).length = 7 * k
  | 0 => rfl
  | k + 1 => by rw [sends, List.length_append, sends_len nl T k]; simp [evS]; omega
theorem sends_get (nl : Nat) (T : Int) (j c : Nat) (hc : c < 7) : ∀ k, j < k → (sends nl T k)[7 * j + c]? = (evS (-(nl : Int) + j) T)[c]?
  | 0, h => absurd h (by omega)
  | k + 1, h => by
    rw [sends]
    by_cases hj : j < k
    · rw [List.getElem?_append_left (by rw [sends_len]; omega)]; exact sends_get nl T j c hc k hj
    · obtain rfl : j = k := by omega
      rw [List.getElem?_append_right (by rw [sends_len]; omega), sends_len, show 7 * j + c - 7 * j = c from by omega, show (j : Int) - nl = -(nl : Int) + j from by omega]
theorem logX_send (nl d j c : Nat) (T : Int) (hj : j < nl) (hc : c < 7) : (logX nl d T)[(1 + j) * 7 + c]? = (evS (-(nl : Int) + j) T)[c]? := by
  unfold logX
  rw [List.getElem?_append_left (by simp [sends_len, evC]; omega), List.nil_append, List.getElem?_append_right (by simp [evC]; omega), ← sends_get nl T j c hc nl hj]
  congr 1
  simp [evC]; omega
theorem logX_after (nl d c : Nat) (T : Int) (hd : 0 < d) (hc : c < 7) : (logX nl d T)[(1 + nl) * 7 + c]? = (evA d)[c]? := by
  unfold logX afters
  rw [if_pos hd, List.getElem?_append_right (by simp [sends_len, evC]; omega)]
  congr 1
  simp [sends_len, evC]; omega

set_option maxRecDepth 10000 in
set_option maxHeartbeats 400000 in
theorem coord_calls (g L cp nl d T : Nat) (w : World) (hL : L = logN nl d) (hnl : nl ≤ 255) (hd : d ≤ 65535)
    (hcell : ∀ j u, (logX nl d T)[j]? = some u → w.cell? ⟨g, j, none⟩ = some u) :
    Calls Yba.prog 8 #[.slice (some ⟨g, 0, none⟩) L cp, .int .i64 nl, .int .u64 T, .int .i64 d] w fun e w' => e = .returned (.bool true) ∧ w' = w := by
  have z0 := hcell 0 _ rfl
  have z1 := hcell 1 _ rfl
  have z2 : w.cell? ⟨g, 2, none⟩ = some (.string { data := #[] }) := hcell 2 _ rfl
  have z3 := hcell 3 _ rfl
  have z4 := hcell 4 _ rfl
  have z5 := hcell 5 _ rfl
  have z6 := hcell 6 _ rfl
  have HC := hide' hcell
  have HD := hide' hd
  clear hcell
  by_cases hd0 : 0 < d
  · have hL1 : (L : Int) = 1 + nl + 1 := by rw [hL]; unfold logN; simp [hd0]
    have hd2 : decide ((0 : Int) < d) = true := by simp; omega
    have hLp : 0 < L := by omega
    have HL := hide' hL
    clear hL hd
    go_enter Yba.func8, Yba.ntmps8
    go_wp2_with fail
    clear z0 z1 z2 z3 z4 z5 z6
    go_loopg [10] nl (fun g s10 wr => ∃ j : Nat, s10 = .int .i64 j ∧ j ≤ nl ∧ g = nl - j ∧ Hid (wr = w))
    case atStart => exact ⟨0, rfl, by omega, by omega, rfl⟩
    case round =>
      obtain ⟨j, rfl, hjl, hg, HW⟩ := hrel
      obtain rfl : wr = w := HW.out
      have HG := hide' hg
      clear hg HW
      by_cases hlt : j < nl
      · have hlt2 : decide ((j : Int) < nl) = true := by simp; omega
        have y0 := HC.out ((1 + j) * 7) (.int .u8 1) (logX_send nl d j 0 T hlt (by decide))
        have y1 := HC.out ((1 + j) * 7 + 1) (.int .i64 (-(nl : Int) + j)) (logX_send nl d j 1 T hlt (by decide))
        have y2 := HC.out ((1 + j) * 7 + 2) (.string { data := #[99, 111, 111, 114, 100, 105, 110, 97, 116, 111, 114] }) (logX_send nl d j 2 T hlt (by decide))
        have y3 := HC.out ((1 + j) * 7 + 3) (.int .u64 T) (logX_send nl d j 3 T hlt (by decide))
        have y4 := HC.out ((1 + j) * 7 + 4) (.int .i64 0) (logX_send nl d j 4 T hlt (by decide))
        have y5 := HC.out ((1 + j) * 7 + 5) (.int .u64 0) (logX_send nl d j 5 T hlt (by decide))
        have y6 := HC.out ((1 + j) * 7 + 6) (.int .i64 0) (logX_send nl d j 6 T hlt (by decide))
        have hb : ((1 : Int) + j) < L := by omega
        go_wp2_with fail
        go_roundg (nl - (j + 1))
        case measure => have := HG.out; omega
        case rel => exact ⟨j + 1, by push_cast; rfl, by omega, rfl, rfl⟩
      · have hlt2 : decide ((j : Int) < nl) = false := by simp; omega
        obtain rfl : j = nl := by omega
        have y0 := HC.out ((1 + j) * 7) (.int .u8 2) (logX_after j d 0 T hd0 (by decide))
        have y1 := HC.out ((1 + j) * 7 + 1) (.int .i64 0) (logX_after j d 1 T hd0 (by decide))
        have y2 := HC.out ((1 + j) * 7 + 2) (.string { data := #[] }) (logX_after j d 2 T hd0 (by decide))
        have y3 := HC.out ((1 + j) * 7 + 3) (.int .u64 0) (logX_after j d 3 T hd0 (by decide))
        have y4 := HC.out ((1 + j) * 7 + 4) (.int .i64 d) (logX_after j d 4 T hd0 (by decide))
        have y5 := HC.out ((1 + j) * 7 + 5) (.int .u64 1) (logX_after j d 5 T hd0 (by decide))
        have y6 := HC.out ((1 + j) * 7 + 6) (.int .i64 0) (logX_after j d 6 T hd0 (by decide))
        have hb : ((1 : Int) + j) < L := by omega
        go_wp2_with fail
        go_ret
        exact ⟨rfl, rfl⟩
  · obtain rfl : d = 0 := by omega
    have hL1 : (L : Int) = 1 + nl := by rw [hL]; unfold logN; simp
    have hLp : 0 < L := by omega
    have HL := hide' hL
    clear hL hd
    go_enter Yba.func8, Yba.ntmps8
    go_wp2_with fail
    clear z0 z1 z2 z3 z4 z5 z6
    go_loopg [10] nl (fun g s10 wr => ∃ j : Nat, s10 = .int .i64 j ∧ j ≤ nl ∧ g = nl - j ∧ Hid (wr = w))
    case atStart => exact ⟨0, rfl, by omega, by omega, rfl⟩
    case round =>
      obtain ⟨j, rfl, hjl, hg, HW⟩ := hrel
      obtain rfl : wr = w := HW.out
      have HG := hide' hg
      clear hg HW
      by_cases hlt : j < nl
      · have hlt2 : decide ((j : Int) < nl) = true := by simp; omega
        have y0 := HC.out ((1 + j) * 7) (.int .u8 1) (logX_send nl 0 j 0 T hlt (by decide))
        have y1 := HC.out ((1 + j) * 7 + 1) (.int .i64 (-(nl : Int) + j)) (logX_send nl 0 j 1 T hlt (by decide))
        have y2 := HC.out ((1 + j) * 7 + 2) (.string { data := #[99, 111, 111, 114, 100, 105, 110, 97, 116, 111, 114] }) (logX_send nl 0 j 2 T hlt (by decide))
        have y3 := HC.out ((1 + j) * 7 + 3) (.int .u64 T) (logX_send nl 0 j 3 T hlt (by decide))
        have y4 := HC.out ((1 + j) * 7 + 4) (.int .i64 0) (logX_send nl 0 j 4 T hlt (by decide))
        have y5 := HC.out ((1 + j) * 7 + 5) (.int .u64 0) (logX_send nl 0 j 5 T hlt (by decide))
        have y6 := HC.out ((1 + j) * 7 + 6) (.int .i64 0) (logX_send nl 0 j 6 T hlt (by decide))
        have hb : ((1 : Int) + j) < L := by omega
        go_wp2_with fail
        go_roundg (nl - (j + 1))
        case measure => have := HG.out; omega
        case rel => exact ⟨j + 1, by push_cast; rfl, by omega, rfl, rfl⟩
      · have hlt2 : decide ((j : Int) < nl) = false := by simp; omega
        go_wp2_with fail
        go_ret
        exact ⟨rfl, rfl⟩

set_option maxRecDepth 10000 in
theorem Term_calls (Nb T : Nat) (w : World) (c19 : w.cell? ⟨Nb, 19, none⟩ = some (.bool true)) (c20 : w.cell? ⟨Nb, 20, none⟩ = some (.int .u64 T)) :
    Calls Yba.prog 7 #[.pointer (some ⟨Nb, 0, none⟩)] w fun e w' => e = .returned (.int .u64 T) ∧ w' = w := by
  go_enter Yba.func7, Yba.ntmps7
  go_wp2_with fail
  go_ret
  exact ⟨rfl, rfl⟩
end Go.Proofs.Ybulkcgke
