import Derived.Test.YbulkcgioFmtKit
namespace Go.Proofs.YbulkcgioFmt.Kit
set_option linter.unusedSimpArgs false
set_option linter.unusedVariables false
open Go.ChangeShapes Go.WideShapes Go.ChangeAt Go.RowKit

/-- what is buffered -/
def Buf (w : World) (gb rr ww pos : Nat) (z : List Int) : Prop := ∀ j, j < ww - rr → w.cell? ⟨gb, rr + j, none⟩ = some (.int .u8 (z.getD (pos + j) 0))

theorem copy_run (W : World) (gd od l c gb rr ww k pos : Nat) (z : List Int) (hk : k = Nat.min (ww - rr) l) (hbuf : Buf W gb rr ww pos z) (hne : gb ≠ gd)
    (hd : ∀ j, j < l → (W.cell? ⟨gd, od + j, none⟩).isSome = true) (fD : ∀ i, W.frozen? ⟨gd, i, none⟩ = false) (sc : Nat) (ty : TypeId) :
    (Builtin.copy_ #[22, 22] ty #[.slice (some ⟨gd, od, none⟩) l c, .slice (some ⟨gb, rr, none⟩) (ww - rr) sc]).run Ybaf.prog W.drew = .ok (.int .i64 k) (W.setCells gd od (by8 z pos k)).drew := by
  have hk1 : k ≤ ww - rr := by rw [hk]; exact Nat.min_le_left _ _
  have hk2 : k ≤ l := by rw [hk]; exact Nat.min_le_right _ _
  have hl1 := by8_len z pos k
  have h := run_copy_cells (P := Ybaf.prog) W.drew 22 22 ty 5 gd od l c ⟨gb, rr, none⟩ (ww - rr) sc (by8 z pos k) Ybaf.underlying22 size5 (hl1.trans hk)
    (fun j v hv => by
      have hj : j < k := by rw [← hl1]; exact (List.getElem?_eq_some_iff.1 hv).1
      rw [by8_get _ _ _ _ hj] at hv
      cases hv
      show W.cell? _ = _
      have hadd : (⟨gb, rr, none⟩ : Addr).add j = ⟨gb, rr + j, none⟩ := by unfold Addr.add; split <;> simp_all
      rw [hadd]
      exact hbuf j (by omega))
    (fun j hj => hd j (by omega))
    (fun j hj => fD _)
    (by8_one _ _ _)
  rw [hl1] at h
  exact h.trans (by rw [setCells_drew]; rfl)

set_option maxHeartbeats 1000000 in
/-- (*bufio.Reader).Read where something is buffered. -/
theorem bufread_have (N B R gb gd od l c n cap0 ii k pos rr ww : Nat) (a : Option Addr) (z : List Int) (pr lb ls : Int) (w : World) (hrw : rr < ww) (hww : ww ≤ 4096) (hl : 0 < l) (hl2 : l ≤ 1000000) (hk : k = Nat.min (ww - rr) l)
    (ha : Apart N B R gb gd) (hz : ∀ j, 0 ≤ z.getD j 0 ∧ z.getD j 0 < 256) (hraw : Raw w N B R gb n cap0 a z rr ww ii lb ls pr) (hbuf : Buf w gb rr ww pos z) (hd : ∀ j, j < l → (w.cell? ⟨gd, od + j, none⟩).isSome = true) (fD : ∀ i, w.frozen? ⟨gd, i, none⟩ = false) :
    Calls Ybaf.prog 32 #[.pointer (some ⟨B, 0, none⟩), .slice (some ⟨gd, od, none⟩) l c] w fun e w' => e = .returned (.tuple #[.int .i64 k, .nilIface]) ∧ PostRead w w' N B R gb n cap0 a z (rr + k) ww ii gd od k pos ∧ Buf w' gb (rr + k) ww (pos + k) z := by
  have hl0 : ((l : Int) == 0) = false := by simp; omega
  have hk0 : 0 < k := by rw [hk, Nat.lt_min]; omega
  have hkl : k ≤ l := by rw [hk]; exact Nat.min_le_right _ _
  have hkw : k ≤ ww - rr := by rw [hk]; exact Nat.min_le_left _ _
  have HK : Hid (k = Nat.min (ww - rr) l) := hk
  clear hk
  have hrw' : ((rr : Int) == (ww : Int)) = false := by simp; omega
  have HR : Hid (Raw w N B R gb n cap0 a z rr ww ii lb ls pr) := hraw
  have HD : Hid ((∀ j, j < l → (w.cell? ⟨gd, od + j, none⟩).isSome = true) ∧ (∀ i, w.frozen? ⟨gd, i, none⟩ = false)) := ⟨hd, fD⟩
  have HBUF : Hid (Buf w gb rr ww pos z) := hbuf
  obtain ⟨b0, b1, b2, b3, b4, b5, b6, r0, r1, r2, fB, fR, fG, room, src⟩ := hraw
  clear room src fG fR r0 r1 r2 hd fD hbuf
  have HA : Hid (Apart N B R gb gd) := ha
  have HZ : Hid (∀ j, 0 ≤ z.getD j 0 ∧ z.getD j 0 < 256) := hz
  clear ha hz
  go_enter Ybaf.func32, Ybaf.ntmps32
  go_wp2_with fail
  go_quiet (fail)
  go_wp2_with fail
  have hcopy := fun sc ty => copy_run (w.drewN nq) gd od l c gb rr ww k pos z HK.out HBUF.out HA.out.GD HD.out.1 HD.out.2 sc ty
  obtain ⟨W, hW⟩ : ∃ W, W = w.drewN nq := ⟨_, rfl⟩
  rw [← hW] at hcopy ⊢
  have hrn : ¬ 4096 = rr := by omega
  have hr1 : rr ≤ ww := by omega
  have b0' : W.cell? ⟨B, 0, none⟩ = some (.slice (some ⟨gb, 0, none⟩) 4096 4096) := by rw [hW]; exact b0
  have b2' : W.cell? ⟨B, 2, none⟩ = some (.int .i64 rr) := by rw [hW]; exact b2
  have b3' : W.cell? ⟨B, 3, none⟩ = some (.int .i64 ww) := by rw [hW]; exact b3
  have c0 : (W.setCells gd od (by8 z pos k)).cell? ⟨B, 0, none⟩ = some (.slice (some ⟨gb, 0, none⟩) 4096 4096) := by rw [World.cell?_setCells_out gd _ _ _ _ (fun h1 h2 => absurd h1 HA.out.BD)]; exact b0'
  have c2 : (W.setCells gd od (by8 z pos k)).cell? ⟨B, 2, none⟩ = some (.int .i64 rr) := by rw [World.cell?_setCells_out gd _ _ _ _ (fun h1 h2 => absurd h1 HA.out.BD)]; exact b2'
  have c5 : (W.setCells gd od (by8 z pos k)).cell? ⟨B, 5, none⟩ = some (.int .i64 lb) := by rw [World.cell?_setCells_out gd _ _ _ _ (fun h1 h2 => absurd h1 HA.out.BD), hW]; exact b5
  have c6 : (W.setCells gd od (by8 z pos k)).cell? ⟨B, 6, none⟩ = some (.int .i64 ls) := by rw [World.cell?_setCells_out gd _ _ _ _ (fun h1 h2 => absurd h1 HA.out.BD), hW]; exact b6
  have fW : ∀ i, (W.setCells gd od (by8 z pos k)).frozen? ⟨B, i, none⟩ = false := fun i => by rw [World.frozen?_setCells, hW]; exact fB i
  have HW : Hid (W = w.drewN nq) := hW
  clear b0 b1 b2 b3 b4 b5 b6 hW fB
  go_region
  obtain ⟨V, hV⟩ : ∃ V, V = W.setCells gd od (by8 z pos k) := ⟨_, rfl⟩
  rw [← hV] at c0 c2 c5 c6 fW ⊢
  have HV : Hid (V = W.setCells gd od (by8 z pos k)) := hV
  clear hV hcopy
  go_wp2_with fail
  obtain ⟨m, hm⟩ : ∃ m : Nat, rr + k = m + 1 := ⟨rr + k - 1, by omega⟩
  have hme : (rr : Int) + (k : Int) = ((m : Int) + 1) := by omega
  rw [hme]
  have hm4 : m < 4096 := by omega
  have hm5 : (m : Int) < 4096 := by omega
  have hzl := HZ.out (pos + k - 1)
  obtain ⟨zl0, zl1⟩ := hzl
  have hbl : V.cell? ⟨gb, m, none⟩ = some (.int .u8 (z.getD (pos + k - 1) 0)) := by
    have h := HBUF.out (k - 1) (by omega)
    rw [HV.out, World.cell?_setCells_out gd _ _ _ _ (fun h1 h2 => absurd h1 HA.out.GD), HW.out, show m = rr + (k - 1) by omega, show pos + k - 1 = pos + (k - 1) by omega]
    exact h
  have hbl2 : (V.setCell ⟨B, 2, none⟩ (.int .i64 ((m : Int) + 1))).cell? ⟨gb, m, none⟩ = some (.int .u8 (z.getD (pos + k - 1) 0)) := by rw [World.cell?_setCell_other _ _ _ _ (by simp [HA.out.BG])]; exact hbl
  generalize z.getD (pos + k - 1) 0 = zl at *
  go_region
  go_wp2_with fail
  go_ret2
  have hA := HA.out
  have hR := HR.out
  have hVc : ∀ x : Addr, (x.block ≠ gd ∨ x.off < od ∨ od + k ≤ x.off) → V.cell? x = w.cell? x := fun x hx => by
    rw [HV.out, World.cell?_setCells_out gd _ _ _ _ (fun h1 h2 => by rw [by8_len]; omega), HW.out]; rfl
  have hVd : ∀ j, j < k → V.cell? ⟨gd, od + j, none⟩ = some (.int .u8 (z.getD (pos + j) 0)) := fun j hj => by
    rw [HV.out, World.cell?_setCells_in gd (by8 z pos k) od _ (fun i hi => by rw [HW.out]; exact HD.out.1 i (by rw [by8_len] at hi; omega)) j (by rw [by8_len]; exact hj)]
    have h1 := by8_get z pos k j hj
    have h2 : (by8 z pos k)[j]? = some ((by8 z pos k)[j]'(by rw [by8_len]; exact hj)) := List.getElem?_eq_getElem _
    rw [h2] at h1
    exact h1
  have hVf : ∀ x : Addr, V.frozen? x = w.frozen? x := fun x => by rw [HV.out, World.frozen?_setCells, HW.out]; rfl
  have hVb : Below N w V := by rw [HV.out, HW.out]; exact below_setCells hA.nD _ _ _ ⟨rfl, rfl, rfl, Nat.le_refl _, fun _ _ => rfl⟩
  have hVs : V.heap.size = w.heap.size := by rw [HV.out, HW.out, size_setCells]; rfl
  have c1 := (hVc ⟨B, 1, none⟩ (.inl hA.BD)).trans hR.b1
  have c3 := (hVc ⟨B, 3, none⟩ (.inl hA.BD)).trans hR.b3
  have c4 := (hVc ⟨B, 4, none⟩ (.inl hA.BD)).trans hR.b4
  have hmc : ((m : Int) + 1) = ((rr + k : Nat) : Int) := by omega
  refine ⟨rfl, post_of (w2 := V) (lb := zl) (ls := -1) (pr := pr) hA (by intro x hx; simp only [World.cell?_drew, World.cell?_drewN]; repeat rw [World.cell?_setCell_other _ _ _ _ (fun h => hx (by rw [← h]))]) (by intro x; simp) (by simp)
    (by first | exact (((((Below.refl N V).setCell (p := ⟨B, 2, none⟩) hA.nB _).setCell (p := ⟨B, 5, none⟩) hA.nB _)).drew.drew.setCell (p := ⟨B, 6, none⟩) hA.nB _) | trace_state)
    (by simp [go_sem, c0, c1, c2, c3, c4, c5, c6]) (by simp [go_sem, c0, c1, c2, c3, c4, c5, c6]) (by simp [go_sem, c0, c1, c2, c3, c4, c5, c6, hmc]) (by simp [go_sem, c0, c1, c2, c3, c4, c5, c6]) (by simp [go_sem, c0, c1, c2, c3, c4, c5, c6]) (by simp [go_sem, c0, c1, c2, c3, c4, c5, c6]) (by simp [go_sem, c0, c1, c2, c3, c4, c5, c6])
    ((hVc _ (.inl hA.RD)).trans hR.r0) ((hVc _ (.inl hA.RD)).trans hR.r1) ((hVc _ (.inl hA.RD)).trans hR.r2) (fun i => (hVf _).trans (hR.fB i)) (fun i => (hVf _).trans (hR.fR i)) (fun i => (hVf _).trans (hR.fG i))
    (fun j hj => by rw [hVc _ (.inl hA.GD)]; exact hR.room j hj) (hR.src.kept hVb) hVd ⟨fun x _ _ _ h4 => hVc x h4, hVf, hVs, hVb⟩, ?_⟩
  intro j hj
  simp only [World.cell?_drew, World.cell?_drewN]
  repeat rw [World.cell?_setCell_other _ _ _ _ (by simp [hA.BG])]
  rw [hVc _ (.inl hA.GD), show rr + k + j = rr + (k + j) by omega, show pos + k + j = pos + (k + j) by omega]
  exact HBUF.out (k + j) (by omega)
end Go.Proofs.YbulkcgioFmt.Kit
