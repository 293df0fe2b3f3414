import Derived.Test.YbulkcgioFmtKit2
namespace Go.Proofs.YbulkcgioFmt.Kit
set_option linter.unusedSimpArgs false
set_option linter.unusedVariables false
open Go.ChangeShapes Go.WideShapes Go.ChangeAt Go.RowKit

set_option maxHeartbeats 1000000 in
/-- (*bufio.Reader).Read, nothing buffered, dest smaller than the buffer, something left. -/
theorem bufread_fill (N B R gb gd od l c n cap0 ii k kk : Nat) (a : Option Addr) (z : List Int) (pr lb ls : Int) (rr : Nat) (w : World) (hin : ii < n) (hnc : n ≤ cap0) (hn : n ≤ 16384) (hl : 0 < l) (hl2 : l < 4096) (hkk : kk = Nat.min (n - ii) 4096) (hk : k = Nat.min kk l)
    (ha : Apart N B R gb gd) (hz : ∀ j, 0 ≤ z.getD j 0 ∧ z.getD j 0 < 256) (hraw : Raw w N B R gb n cap0 a z rr rr ii lb ls pr) (hd : ∀ j, j < l → (w.cell? ⟨gd, od + j, none⟩).isSome = true) (fD : ∀ i, w.frozen? ⟨gd, i, none⟩ = false) :
    Calls Ybaf.prog 32 #[.pointer (some ⟨B, 0, none⟩), .slice (some ⟨gd, od, none⟩) l c] w fun e w' => e = .returned (.tuple #[.int .i64 k, .nilIface]) ∧ PostRead w w' N B R gb n cap0 a z k kk (ii + kk) gd od k ii ∧ Buf w' gb k kk (ii + k) z := by
  have hl0 : ((l : Int) == 0) = false := by simp; omega
  have hl4 : decide ((4096 : Int) ≤ l) = false := by simp; omega
  have hkk0 : 0 < kk := by rw [hkk, Nat.lt_min]; omega
  have hkk1 : kk ≤ 4096 := by rw [hkk]; exact Nat.min_le_right _ _
  have hk0 : 0 < k := by rw [hk, Nat.lt_min]; omega
  have hkl : k ≤ l := by rw [hk]; exact Nat.min_le_right _ _
  have hkw : k ≤ kk := by rw [hk]; exact Nat.min_le_left _ _
  have HK : Hid (k = Nat.min kk l) := hk
  have HKK : Hid (kk = Nat.min (n - ii) 4096) := hkk
  clear hk hkk
  have HR : Hid (Raw w N B R gb n cap0 a z rr rr ii lb ls pr) := hraw
  have HD : Hid ((∀ j, j < l → (w.cell? ⟨gd, od + j, none⟩).isSome = true) ∧ (∀ i, w.frozen? ⟨gd, i, none⟩ = false)) := ⟨hd, fD⟩
  obtain ⟨b0, b1, b2, b3, b4, b5, b6, r0, r1, r2, fB, fR, fG, room, src⟩ := hraw
  clear room src fG fR r0 r1 r2 hd fD
  have HA : Hid (Apart N B R gb gd) := ha
  have HZ : Hid (∀ j, 0 ≤ z.getD j 0 ∧ z.getD j 0 < 256) := hz
  clear ha hz
  have HL2 : Hid (l < 4096 ∧ kk ≤ 4096) := ⟨hl2, hkk1⟩
  clear hl2 hkk1
  go_enter Ybaf.func32, Ybaf.ntmps32
  go_wp2_with fail
  go_quiet (fail)
  go_wp2_with fail
  obtain ⟨W0, hW0⟩ : ∃ W0, W0 = (((w.drewN nq).setCell ⟨B, 2, none⟩ (.int .i64 0)).setCell ⟨B, 3, none⟩ (.int .i64 0)) := ⟨_, rfl⟩
  rw [← hW0]
  have B0 : W0.cell? ⟨B, 0, none⟩ = some (.slice (some ⟨gb, 0, none⟩) 4096 4096) := by rw [hW0]; simp [go_sem, b0]
  have B1 : W0.cell? ⟨B, 1, none⟩ = some (.iface 27 (.pointer (some ⟨R, 0, none⟩))) := by rw [hW0]; simp [go_sem, b1]
  have HW0 : Hid (W0 = (((w.drewN nq).setCell ⟨B, 2, none⟩ (.int .i64 0)).setCell ⟨B, 3, none⟩ (.int .i64 0))) := hW0
  have hcall : Calls Ybaf.prog 37 #[.pointer (some ⟨R, 0, none⟩), .slice (some ⟨gb, 0, none⟩) 4096 4096] W0.drew fun e w2 => e = .returned (.tuple #[.int .i64 kk, .nilIface]) ∧ w2.cell? ⟨B, 4, none⟩ = some .nilIface ∧ w2.frozen? ⟨B, 4, none⟩ = false ∧ w2.cell? ⟨B, 2, none⟩ = some (.int .i64 0) ∧ w2.cell? ⟨B, 3, none⟩ = some (.int .i64 0) ∧ (∀ i, w2.frozen? ⟨B, i, none⟩ = false) ∧ Hid (w2.cell? ⟨B, 0, none⟩ = some (.slice (some ⟨gb, 0, none⟩) 4096 4096) ∧ w2.cell? ⟨B, 1, none⟩ = some (.iface 27 (.pointer (some ⟨R, 0, none⟩))) ∧ w2.cell? ⟨B, 5, none⟩ = some (.int .i64 lb) ∧ w2.cell? ⟨B, 6, none⟩ = some (.int .i64 ls)) ∧ Hid (w2.cell? ⟨R, 0, none⟩ = some (.slice a n cap0) ∧ w2.cell? ⟨R, 1, none⟩ = some (.int .i64 ((ii + kk : Nat) : Int)) ∧ w2.cell? ⟨R, 2, none⟩ = some (.int .i64 (-1)) ∧ Rd W0 w2 R gb 0 kk ii z) := by
    have hA := HA.out
    have hR := HR.out
    obtain ⟨x, rfl, hxN, _⟩ := HR.out.src 0 (by omega)
    have hnB : ∀ y : Addr, y.block ≠ B → W0.cell? y = w.cell? y := fun y hy => by
      rw [hW0, World.cell?_setCell_other _ _ _ _ (fun h => hy (by rw [← h])), World.cell?_setCell_other _ _ _ _ (fun h => hy (by rw [← h]))]; rfl
    have hfz : ∀ y : Addr, W0.frozen? y = w.frozen? y := fun y => by rw [hW0, World.frozen?_setCell, World.frozen?_setCell]; rfl
    refine (bread_some R gb 0 4096 4096 ii n cap0 kk x z pr W0.drew hin hnc hn (by omega) (by omega) HKK.out (Ne.symm hA.RG) (by have := hA.nR; omega) ((hnB ⟨R, 0, none⟩ (Ne.symm hA.BR)).trans hR.r0) ((hnB ⟨R, 1, none⟩ (Ne.symm hA.BR)).trans hR.r1) ((hnB ⟨R, 2, none⟩ (Ne.symm hA.BR)).trans hR.r2) (fun i => (hfz ⟨R, i, none⟩).trans (hR.fR i))
      (fun j hj => by show (W0.cell? _).isSome = true; rw [hnB _ (Ne.symm hA.BG), Nat.zero_add]; exact hR.room j hj) (fun i => (hfz ⟨gb, i, none⟩).trans (hR.fG i)) (fun j hj => by obtain ⟨y, hy, _, h⟩ := hR.src j hj; cases hy; exact (hnB (x.add j) (by rw [add_block]; have := hA.nB; omega)).trans h)).mono ?_
    rintro e w2 ⟨rfl, q0, q1, q2, hrd⟩
    refine ⟨rfl, (hrd.other _ hA.BR (.inl hA.BG)).trans ?_, (hrd.frozen _).trans ?_, (hrd.other _ hA.BR (.inl hA.BG)).trans ?_, (hrd.other _ hA.BR (.inl hA.BG)).trans ?_, (fun i => (hrd.frozen _).trans ((hfz _).trans (fB i))), ⟨(hrd.other _ hA.BR (.inl hA.BG)).trans B0, (hrd.other _ hA.BR (.inl hA.BG)).trans B1, (hrd.other _ hA.BR (.inl hA.BG)).trans ?_, (hrd.other _ hA.BR (.inl hA.BG)).trans ?_⟩, q0, q1, q2, hrd.dest, hrd.other, hrd.frozen, hrd.size, fun bb h1 h2 => ⟨(hrd.below bb h1 h2).1, (hrd.below bb h1 h2).2, (hrd.below bb h1 h2).3, (hrd.below bb h1 h2).4, (hrd.below bb h1 h2).5⟩⟩
    · show W0.cell? _ = _
      rw [hW0]; simp [go_sem, b4]
    · show W0.frozen? _ = _
      rw [hfz]; exact fB 4
    · show W0.cell? _ = _
      rw [hW0]; simp [go_sem, b2]
    · show W0.cell? _ = _
      rw [hW0]; simp [go_sem, b3]
    · show W0.cell? _ = _
      rw [hW0]; simp [go_sem, b5]
    · show W0.cell? _ = _
      rw [hW0]; simp [go_sem, b6]
  clear hW0 b0 b1 b2 b3 b4 b5 b6 fB
  have hkb : ((kk : Int) == 0) = false := by simp; omega
  have hkwr : wrap64 (kk : Int) = kk := by have := HL2.out.2; unfold wrap64; omega
  go_region_with (go_at_call 37; refine hcall.mono ?_; rintro e w2 ⟨rfl, B4, f4, B2, B3, fB2, HC, HP⟩)
  all_goals (
    go_wp2_with fail
    obtain ⟨W, hW⟩ : ∃ W, W = (w2.setCell ⟨B, 4, none⟩ .nilIface).setCell ⟨B, 3, none⟩ (.int .i64 kk) := ⟨_, rfl⟩
    rw [← hW]
    have hbuf : Buf W gb 0 kk ii z := fun j hj => by
      rw [hW, World.cell?_setCell_other _ _ _ _ (by simp [HA.out.BG]), World.cell?_setCell_other _ _ _ _ (by simp [HA.out.BG])]
      exact HP.out.2.2.2.dest j (by omega)
    have hW0c : ∀ y : Addr, y.block ≠ B → W0.cell? y = w.cell? y := fun y hy => by
      rw [HW0.out, World.cell?_setCell_other _ _ _ _ (fun h => hy (by rw [← h])), World.cell?_setCell_other _ _ _ _ (fun h => hy (by rw [← h]))]; rfl
    have hWc : ∀ y : Addr, y.block ≠ B → y.block ≠ R → y.block ≠ gb → W.cell? y = w.cell? y := fun y h1 h2 h3 => by
      rw [hW, World.cell?_setCell_other _ _ _ _ (fun h => h1 (by rw [← h])), World.cell?_setCell_other _ _ _ _ (fun h => h1 (by rw [← h]))]
      exact (HP.out.2.2.2.other y h2 (.inl h3)).trans (hW0c y h1)
    have hWf : ∀ y : Addr, W.frozen? y = w.frozen? y := fun y => by
      rw [hW, World.frozen?_setCell, World.frozen?_setCell, HP.out.2.2.2.frozen, HW0.out, World.frozen?_setCell, World.frozen?_setCell]; rfl
    have hdW : ∀ j, j < l → (W.cell? ⟨gd, od + j, none⟩).isSome = true := fun j hj => by
      rw [hWc _ (Ne.symm HA.out.BD) (Ne.symm HA.out.RD) (Ne.symm HA.out.GD)]; exact HD.out.1 j hj
    have hcopy := fun sc ty => copy_run W gd od l c gb 0 kk k ii z HK.out hbuf HA.out.GD hdW (fun i => (hWf _).trans (HD.out.2 i)) sc ty
    simp only [Nat.sub_zero] at hcopy
    have b0' : W.cell? ⟨B, 0, none⟩ = some (.slice (some ⟨gb, 0, none⟩) 4096 4096) := by rw [hW]; simp [go_sem, HC.out.1]
    have b2' : W.cell? ⟨B, 2, none⟩ = some (.int .i64 0) := by rw [hW]; simp [go_sem, B2]
    have b3' : W.cell? ⟨B, 3, none⟩ = some (.int .i64 kk) := by rw [hW]; simp [go_sem, B3]
    have c0 : (W.setCells gd od (by8 z ii k)).cell? ⟨B, 0, none⟩ = some (.slice (some ⟨gb, 0, none⟩) 4096 4096) := by rw [World.cell?_setCells_out gd _ _ _ _ (fun h1 h2 => absurd h1 HA.out.BD)]; exact b0'
    have c2 : (W.setCells gd od (by8 z ii k)).cell? ⟨B, 2, none⟩ = some (.int .i64 0) := by rw [World.cell?_setCells_out gd _ _ _ _ (fun h1 h2 => absurd h1 HA.out.BD)]; exact b2'
    have c3 : (W.setCells gd od (by8 z ii k)).cell? ⟨B, 3, none⟩ = some (.int .i64 kk) := by rw [World.cell?_setCells_out gd _ _ _ _ (fun h1 h2 => absurd h1 HA.out.BD)]; exact b3'
    have c1 : (W.setCells gd od (by8 z ii k)).cell? ⟨B, 1, none⟩ = some (.iface 27 (.pointer (some ⟨R, 0, none⟩))) := by rw [World.cell?_setCells_out gd _ _ _ _ (fun h1 h2 => absurd h1 HA.out.BD), hW]; simp [go_sem, HC.out.2.1]
    have c4 : (W.setCells gd od (by8 z ii k)).cell? ⟨B, 4, none⟩ = some .nilIface := by rw [World.cell?_setCells_out gd _ _ _ _ (fun h1 h2 => absurd h1 HA.out.BD), hW]; simp [go_sem, B4]
    have c5 : (W.setCells gd od (by8 z ii k)).cell? ⟨B, 5, none⟩ = some (.int .i64 lb) := by rw [World.cell?_setCells_out gd _ _ _ _ (fun h1 h2 => absurd h1 HA.out.BD), hW]; simp [go_sem, HC.out.2.2.1]
    have c6 : (W.setCells gd od (by8 z ii k)).cell? ⟨B, 6, none⟩ = some (.int .i64 ls) := by rw [World.cell?_setCells_out gd _ _ _ _ (fun h1 h2 => absurd h1 HA.out.BD), hW]; simp [go_sem, HC.out.2.2.2]
    have fW : ∀ i, (W.setCells gd od (by8 z ii k)).frozen? ⟨B, i, none⟩ = false := fun i => by rw [World.frozen?_setCells, hW, World.frozen?_setCell, World.frozen?_setCell]; exact fB2 i
    have HW : Hid (W = (w2.setCell ⟨B, 4, none⟩ .nilIface).setCell ⟨B, 3, none⟩ (.int .i64 kk)) := hW
    have HBUF : Hid (Buf W gb 0 kk ii z) := hbuf
    have HWc := hide' hWc
    have HWf := hide' hWf
    have HdW := hide' hdW
    have hkk1 : kk ≤ 4096 := HL2.out.2
    clear hcall B2 B3 B4 fB2 f4 hW hbuf hWc hWf hdW hW0c
    go_region
    obtain ⟨V, hV⟩ : ∃ V, V = W.setCells gd od (by8 z ii k) := ⟨_, rfl⟩
    rw [← hV] at c0 c1 c2 c3 c4 c5 c6 fW ⊢
    have HV : Hid (V = W.setCells gd od (by8 z ii k)) := hV
    clear hV hcopy
    go_wp2_with fail
    obtain ⟨m, hm⟩ : ∃ m : Nat, k = m + 1 := ⟨k - 1, by omega⟩
    have hme : (k : Int) = ((m : Int) + 1) := by omega
    rw [hme]
    have hm4 : m < 4096 := by omega
    have hm5 : (m : Int) < 4096 := by omega
    have hzl := HZ.out (ii + k - 1)
    obtain ⟨zl0, zl1⟩ := hzl
    have hbl : V.cell? ⟨gb, m, none⟩ = some (.int .u8 (z.getD (ii + k - 1) 0)) := by
      have h := HBUF.out (k - 1) (by omega)
      rw [HV.out, World.cell?_setCells_out gd _ _ _ _ (fun h1 h2 => absurd h1 HA.out.GD), show m = 0 + (k - 1) by omega, show ii + k - 1 = ii + (k - 1) by omega]
      exact h
    have hbl2 : (V.setCell ⟨B, 2, none⟩ (.int .i64 ((m : Int) + 1))).cell? ⟨gb, m, none⟩ = some (.int .u8 (z.getD (ii + k - 1) 0)) := by rw [World.cell?_setCell_other _ _ _ _ (by simp [HA.out.BG])]; exact hbl
    generalize z.getD (ii + k - 1) 0 = zl at *
    go_region
    go_wp2_with fail
    go_ret2
    have hA := HA.out
    have hR := HR.out
    have hVc : ∀ x : Addr, (x.block ≠ gd ∨ x.off < od ∨ od + k ≤ x.off) → V.cell? x = W.cell? x := fun x hx => by
      rw [HV.out, World.cell?_setCells_out gd _ _ _ _ (fun h1 h2 => by rw [by8_len]; omega)]
    have hVd : ∀ j, j < k → V.cell? ⟨gd, od + j, none⟩ = some (.int .u8 (z.getD (ii + j) 0)) := fun j hj => by
      rw [HV.out, World.cell?_setCells_in gd (by8 z ii k) od _ (fun i hi => HdW.out i (by rw [by8_len] at hi; omega)) j (by rw [by8_len]; exact hj)]
      have h1 := by8_get z ii k j hj
      have h2 : (by8 z ii k)[j]? = some ((by8 z ii k)[j]'(by rw [by8_len]; exact hj)) := List.getElem?_eq_getElem _
      rw [h2] at h1
      exact h1
    have hVf : ∀ x : Addr, V.frozen? x = w.frozen? x := fun x => by rw [HV.out, World.frozen?_setCells]; exact HWf.out x
    have hWb : Below N w W := by
      rw [HW.out]
      refine Below.setCell (p := ⟨B, 3, none⟩) (Below.setCell (p := ⟨B, 4, none⟩) ?_ hA.nB _) hA.nB _
      refine Below.trans ?_ (HP.out.2.2.2.below N hA.nR hA.nG)
      rw [HW0.out]
      exact ((⟨rfl, rfl, rfl, Nat.le_refl _, fun _ _ => rfl⟩ : Below N w (w.drewN nq)).setCell (p := ⟨B, 2, none⟩) hA.nB _).setCell (p := ⟨B, 3, none⟩) hA.nB _
    have hWs : W.heap.size = w.heap.size := by
      have h := HP.out.2.2.2.size
      rw [HW0.out] at h
      rw [HW.out]; simp at h ⊢; exact h
    have hVb : Below N w V := by rw [HV.out]; exact below_setCells hA.nD _ _ _ hWb
    have hVs : V.heap.size = w.heap.size := by rw [HV.out, size_setCells]; exact hWs
    have hWr : ∀ i, W.cell? ⟨R, i, none⟩ = w2.cell? ⟨R, i, none⟩ := fun i => by
      rw [HW.out, World.cell?_setCell_other _ _ _ _ (by simp [hA.BR]), World.cell?_setCell_other _ _ _ _ (by simp [hA.BR])]
    have hWg : ∀ j, j < 4096 → (W.cell? ⟨gb, j, none⟩).isSome = true := fun j hj => by
      by_cases hjk : j < kk
      · rw [show j = 0 + j by omega, HBUF.out j (by omega)]; rfl
      · rw [HW.out, World.cell?_setCell_other _ _ _ _ (by simp [hA.BG]), World.cell?_setCell_other _ _ _ _ (by simp [hA.BG]), HP.out.2.2.2.other _ (Ne.symm hA.RG) (.inr (.inr (by simp; omega)))]
        rw [HW0.out, World.cell?_setCell_other _ _ _ _ (by simp [hA.BG]), World.cell?_setCell_other _ _ _ _ (by simp [hA.BG])]
        exact hR.room j hj
    have hmc : ((m : Int) + 1) = ((k : Nat) : Int) := by omega
    refine ⟨by rw [hmc]; rfl, post_of (w2 := V) (lb := zl) (ls := -1) (pr := -1) hA (by intro x hx; simp only [World.cell?_drew, World.cell?_drewN]; repeat rw [World.cell?_setCell_other _ _ _ _ (fun h => hx (by rw [← h]))]) (by intro x; simp) (by simp)
      (((((Below.refl N V).setCell (p := ⟨B, 2, none⟩) hA.nB _).setCell (p := ⟨B, 5, none⟩) hA.nB _)).drew.drew.setCell (p := ⟨B, 6, none⟩) hA.nB _)
      (by simp [go_sem, c0, c1, c2, c3, c4, c5, c6]) (by simp [go_sem, c0, c1, c2, c3, c4, c5, c6]) (by simp [go_sem, c0, c1, c2, c3, c4, c5, c6, hmc]) (by simp [go_sem, c0, c1, c2, c3, c4, c5, c6]) (by simp [go_sem, c0, c1, c2, c3, c4, c5, c6]) (by simp [go_sem, c0, c1, c2, c3, c4, c5, c6]) (by simp [go_sem, c0, c1, c2, c3, c4, c5, c6])
      ((hVc _ (.inl hA.RD)).trans ((hWr 0).trans HP.out.1)) ((hVc _ (.inl hA.RD)).trans ((hWr 1).trans HP.out.2.1)) ((hVc _ (.inl hA.RD)).trans ((hWr 2).trans HP.out.2.2.1)) (fun i => (hVf _).trans (hR.fB i)) (fun i => (hVf _).trans (hR.fR i)) (fun i => (hVf _).trans (hR.fG i))
      (fun j hj => by rw [hVc _ (.inl hA.GD)]; exact hWg j hj) (hR.src.kept hVb) hVd ⟨fun x h1 h2 h3 h4 => (hVc x h4).trans (HWc.out x h1 h2 h3), hVf, hVs, hVb⟩, ?_⟩
    intro j hj
    simp only [World.cell?_drew, World.cell?_drewN]
    repeat rw [World.cell?_setCell_other _ _ _ _ (by simp [hA.BG])]
    rw [hVc _ (.inl hA.GD), show k + j = 0 + (k + j) by omega, show ii + k + j = ii + (k + j) by omega]
    exact HBUF.out (k + j) (by omega))
end Go.Proofs.YbulkcgioFmt.Kit
