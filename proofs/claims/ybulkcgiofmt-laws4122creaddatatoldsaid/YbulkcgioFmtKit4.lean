import Derived.Test.YbulkcgioFmtKit3
namespace Go.Proofs.YbulkcgioFmt.Kit
set_option linter.unusedSimpArgs false
set_option linter.unusedVariables false
open Go.ChangeShapes Go.WideShapes Go.ChangeAt Go.RowKit

set_option maxHeartbeats 1000000 in
/-- (*bufio.Reader).Read at the stream's end, dest smaller than the buffer. -/
theorem bufread_eof2 (N B R gb gd od l c n cap0 ii : Nat) (a : Option Addr) (z : List Int) (pr lb ls : Int) (rr : Nat) (e1 : Addr) (w : World) (hin : n ≤ ii) (hii : ii ≤ 16384) (hn : n ≤ 16384) (hl : 0 < l) (hl2 : l < 4096)
    (ha : Apart N B R gb gd) (hraw : Raw w N B R gb n cap0 a z rr rr ii lb ls pr) (h1B : 1 < N) (he : w.cell? ⟨1, 0, none⟩ = some (.iface 60 (.pointer (some e1)))) :
    Calls Ybaf.prog 32 #[.pointer (some ⟨B, 0, none⟩), .slice (some ⟨gd, od, none⟩) l c] w fun e w' => e = .returned (.tuple #[.int .i64 0, .iface 60 (.pointer (some e1))]) ∧ PostRead w w' N B R gb n cap0 a z 0 0 ii gd od 0 ii := by
  have hl0 : ((l : Int) == 0) = false := by simp; omega
  have hl4 : decide ((4096 : Int) ≤ l) = false := by simp; omega
  have HR : Hid (Raw w N B R gb n cap0 a z rr rr ii lb ls pr) := hraw
  obtain ⟨b0, b1, b2, b3, b4, b5, b6, r0, r1, r2, fB, fR, fG, room, src⟩ := hraw
  clear room src fG fR r0 r1 r2
  have HA : Hid (Apart N B R gb gd) := ha
  have HL2 := hide' hl2
  clear ha hl2
  go_enter Ybaf.func32, Ybaf.ntmps32
  go_wp2_with fail
  go_quiet (fail)
  go_wp2_with fail
  obtain ⟨W0, hW0⟩ : ∃ W0, W0 = (((w.drewN nq).setCell ⟨B, 2, none⟩ (.int .i64 0)).setCell ⟨B, 3, none⟩ (.int .i64 0)) := ⟨_, rfl⟩
  rw [← hW0]
  have B0 : W0.cell? ⟨B, 0, none⟩ = some (.slice (some ⟨gb, 0, none⟩) 4096 4096) := by rw [hW0]; simp [go_sem, b0]
  have B1 : W0.cell? ⟨B, 1, none⟩ = some (.iface 27 (.pointer (some ⟨R, 0, none⟩))) := by rw [hW0]; simp [go_sem, b1]
  have B2 : W0.cell? ⟨B, 2, none⟩ = some (.int .i64 0) := by rw [hW0]; simp [go_sem, b2]
  have B3 : W0.cell? ⟨B, 3, none⟩ = some (.int .i64 0) := by rw [hW0]; simp [go_sem, b3]
  have B4 : W0.cell? ⟨B, 4, none⟩ = some .nilIface := by rw [hW0]; simp [go_sem, b4]
  have B5 : W0.cell? ⟨B, 5, none⟩ = some (.int .i64 lb) := by rw [hW0]; simp [go_sem, b5]
  have B6 : W0.cell? ⟨B, 6, none⟩ = some (.int .i64 ls) := by rw [hW0]; simp [go_sem, b6]
  have HW0 : Hid (W0 = (((w.drewN nq).setCell ⟨B, 2, none⟩ (.int .i64 0)).setCell ⟨B, 3, none⟩ (.int .i64 0))) := hW0
  have hnB : ∀ y : Addr, y.block ≠ B → W0.cell? y = w.cell? y := fun y hy => by
    rw [hW0, World.cell?_setCell_other _ _ _ _ (fun h => hy (by rw [← h])), World.cell?_setCell_other _ _ _ _ (fun h => hy (by rw [← h]))]; rfl
  have hfz : ∀ y : Addr, W0.frozen? y = w.frozen? y := fun y => by rw [hW0, World.frozen?_setCell, World.frozen?_setCell]; rfl
  have fB0 : ∀ i, W0.frozen? ⟨B, i, none⟩ = false := fun i => (hfz _).trans (fB i)
  have hcall := bread_eof R n cap0 ii a (.slice (some ⟨gb, 0, none⟩) 4096 4096) (.iface 60 (.pointer (some e1))) W0.drew hin hn hii ((hnB ⟨R, 0, none⟩ (Ne.symm HA.out.BR)).trans HR.out.r0) ((hnB ⟨R, 1, none⟩ (Ne.symm HA.out.BR)).trans HR.out.r1) ((hnB ⟨1, 0, none⟩ (by have := HA.out.nB; simp; omega)).trans he)
  have HnB := hide' hnB
  have Hfz := hide' hfz
  clear hW0 b0 b1 b2 b3 b4 b5 b6 fB hnB hfz
  go_region_with (go_at_call 37; refine hcall.mono ?_; rintro e w2 ⟨rfl, q, rfl⟩)
  all_goals (
    go_wp2_with fail
    refine (readErr_calls B (.iface 60 (.pointer (some e1))) _ (by simp [go_sem, B4]) (by simp [go_sem, fB0])).mono ?_
    rintro e w3 ⟨rfl, rfl⟩
    go_wp2_with fail
    go_ret2
    have hA := HA.out
    have hR := HR.out
    have hWb : Below N w W0 := by
      rw [HW0.out]
      exact ((⟨rfl, rfl, rfl, Nat.le_refl _, fun _ _ => rfl⟩ : Below N w (w.drewN nq)).setCell (p := ⟨B, 2, none⟩) hA.nB _).setCell (p := ⟨B, 3, none⟩) hA.nB _
    have hWs : W0.heap.size = w.heap.size := by rw [HW0.out]; simp
    refine ⟨rfl, post_of (w2 := W0) (lb := lb) (ls := ls) (pr := pr) hA (fun x hx => by (repeat rw [World.cell?_setCell_other _ _ _ _ (fun h => hx (by rw [← h]))]); rfl) (by intro x; simp) (by simp)
      ((((⟨rfl, rfl, rfl, Nat.le_refl _, fun _ _ => rfl⟩ : Below N W0 (W0.drewN (1 + q))).setCell (p := ⟨B, 4, none⟩) hA.nB _)).setCell (p := ⟨B, 4, none⟩) hA.nB _)
      (by simp [go_sem, B0, B1, B2, B3, B4, B5, B6]) (by simp [go_sem, B0, B1, B2, B3, B4, B5, B6]) (by simp [go_sem, B0, B1, B2, B3, B4, B5, B6]) (by simp [go_sem, B0, B1, B2, B3, B4, B5, B6]) (by simp [go_sem, B0, B1, B2, B3, B4, B5, B6]) (by simp [go_sem, B0, B1, B2, B3, B4, B5, B6]) (by simp [go_sem, B0, B1, B2, B3, B4, B5, B6])
      ((HnB.out _ (Ne.symm hA.BR)).trans hR.r0) ((HnB.out _ (Ne.symm hA.BR)).trans hR.r1) ((HnB.out _ (Ne.symm hA.BR)).trans hR.r2) fB0 (fun i => (Hfz.out _).trans (hR.fR i)) (fun i => (Hfz.out _).trans (hR.fG i)) (fun j hj => by rw [HnB.out _ (Ne.symm hA.BG)]; exact hR.room j hj) (hR.src.kept hWb) (fun j hj => by omega)
      ⟨fun x h1 _ _ _ => HnB.out x h1, Hfz.out, hWs, hWb⟩⟩)
end Go.Proofs.YbulkcgioFmt.Kit
