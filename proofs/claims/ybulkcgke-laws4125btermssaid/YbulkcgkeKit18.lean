import Derived.Test.YbulkcgkeKit17
namespace Go.Proofs.Ybulkcgke
set_option linter.unusedSimpArgs false
set_option linter.unusedVariables false
open Go.ChangeShapes Go.WideShapes Go.ChangeAt Go.RowKit Go.Shelf Go.Lib

def pickL (z : Nat → Int) (k : Nat) : List Int := (List.range k).map fun i => z i - 128
theorem pickL_succ (z : Nat → Int) (k : Nat) : pickL z (k + 1) = pickL z k ++ [z k - 128] := by simp [pickL, List.range_succ]

set_option maxRecDepth 20000 in
set_option maxHeartbeats 2000000 in
theorem law_off (c nl nh d S s len5 cap5 m : Nat) (phv : ByteArray) (a5 : Option Addr) (z : Nat → Int) (w : World)
    (hmp : (m = 1 ∧ phv = { data := #[102, 111, 108, 108, 111, 119, 105, 110, 103] }) ∨ (m = 2 ∧ phv = { data := #[99, 111, 111, 114, 100, 105, 110, 97, 116, 105, 110, 103] }))
    (hm : ((c : Int) % 3 = (m : Nat))) (hnl : nl ≤ 255) (hnh : nh ≤ 255) (hlen : len5 ≤ 1024) (hd : d ≤ 65535) (hs4 : (S : Int) / 4 = (s : Nat))
    (hz : ∀ i, i < len5 → ∃ x, a5 = some x ∧ w.cell? (x.add i) = some (.int .u8 (z i)) ∧ 0 ≤ z i ∧ z i < 256) :
    Calls Yba.prog 3 #[.int .u8 c, .int .u8 nl, .int .u8 nh, .int .u64 S, .int .u16 d, .slice a5 len5 cap5] w fun e w' => e = .returned (.bool true) ∧ Below w.heap.size w w' := by
  have hcall := hide' (build_calls nl nh d w hnl hnh)
  have hl2 : decide ((1024 : Int) < len5) = false := by simp; omega
  have HZ := hide' hz
  obtain ⟨n, hn⟩ : ∃ n, n = len5 + nl := ⟨_, rfl⟩
  have hmk : ∀ w : World, (Instr.makeSlice 31 (.int .i64 0) (.int .i64 ((len5 : Int) + nl))).run Yba.prog w = .ok (.slice (some ⟨w.heap.size, 0, none⟩) 0 n) (w.alloc (.cells (madeCells #[.int .i64 0] n) 3)) := fun w => by
    rw [show (len5 : Int) + nl = ((n : Nat) : Int) from by omega]; exact mk31 n (by omega) w
  have HNN := hide' hn
  clear hz hn
  rcases hmp with ⟨rfl, rfl⟩ | ⟨rfl, rfl⟩
  · go_enter Yba.func3, Yba.ntmps3
    go_wp2_with (go_at_call 4; refine hcall.out.mono ?_; rintro e w1 ⟨Nb, Eb, Pb, ph, rfl, hPb, hPE, hEN, hnw, hpe, hlog, hfe, hb⟩; have HF := hide' (fill_law w w1 Nb Eb Pb nl nh d s ph { data := #[102, 111, 108, 108, 111, 119, 105, 110, 103] } ⟨hPb, hPE, hEN⟩ ⟨hpe, hlog, hfe, hb⟩ hnw hnl); have c21 := hnw.c21; have c17 := hnw.c17; have c15 := hnw.c15; have fN := hnw.fz; clear hPb hPE hEN hnw hpe hlog hfe hb)
    go_region_with (go_at_call 5; refine HF.out.mono ?_; rintro e w2 ⟨rfl, pb, wc, HM⟩)
    all_goals (
      clear HF c21 c17 c15 fN hcall
      clear w1
      go_wp2_with fail
      have HS := hide' (Rw.start w2 n (by have := HNN.out; omega))
      go_loopg [20, 91] len5 (fun g s20 s91 wr => ∃ i : Nat, s20 = .slice (some ⟨w2.heap.size, 0, none⟩) i n ∧ s91 = .int .i64 i ∧ i ≤ len5 ∧ g = len5 - i ∧ Hid (Rw w2 w2.heap.size wr w2.heap.size n i (pickL z i)))
      case atStart => exact ⟨0, rfl, rfl, by omega, by omega, HS.out⟩
      case round =>
        obtain ⟨i, rfl, rfl, hil, hg, HR⟩ := hrel
        clear HS hmk
        have HG := hide' hg
        clear hg
        by_cases hlt : i < len5
        · have hlt2 : decide ((i : Int) < len5) = true := by simp; omega
          obtain ⟨x, rfl, hc, hz0, hz1⟩ := HZ.out i hlt
          have hcw : wr.cell? (x.add i) = some (.int .u8 (z i)) := by
            have hxb : (x.add i).block < w.heap.size := World.block_lt_of_cell? w _ hc
            have := HM.out.bel.size
            rw [HR.out.bel.cell (p := x.add i) (by omega), HM.out.bel.cell (p := x.add i) hxb]; exact hc
          clear hc
          go_wp2_with (at_builtin; refine wpList_ap31 rfl _ _ rfl w2.heap.size w2.heap.size i n (pickL z i) rfl (HR.out.own.alloc _) ⟨wr.heap.size, 0, none⟩ (z i - 128) rfl (one_cell wr _ 3) (by have := HNN.out; omega) ?_; intro w3 hown hgr; have HR2 := hide' (HR.out.step hown hgr); clear hown hgr)
          go_roundg (len5 - (i + 1))
          case measure => have := HG.out; omega
          case rel => exact ⟨i + 1, rfl, by push_cast; rfl, by omega, rfl, by rw [pickL_succ]; exact HR2.out⟩
        · obtain rfl : i = len5 := by omega
          have hlt2 : decide ((i : Int) < i) = false := by simp
          clear hlt hil HG
          go_wp2_with fail
          go_loopg [20, 23] nl (fun g s20 s23 wr => ∃ j : Nat, s20 = .slice (some ⟨w2.heap.size, 0, none⟩) (i + j) n ∧ s23 = .int .i64 ((nl - j : Nat) : Int) ∧ j ≤ nl ∧ g = nl - j ∧ Hid (Rw w2 w2.heap.size wr w2.heap.size n (i + j) (pickL z i ++ lowL nl j)))
          case atStart => exact ⟨0, rfl, by simp, by omega, by omega, by show Rw _ _ _ _ _ _ _; simpa [lowL] using HR.out⟩
          case round =>
            clear HR
            obtain ⟨j, rfl, rfl, hjl, hg, HR⟩ := hrel
            have HG := hide' hg
            clear hg
            by_cases hlt : j < nl
            · obtain ⟨x, hx⟩ : ∃ x, nl - j = x + 1 := ⟨nl - j - 1, by omega⟩
              have hx2 : (j : Int) - nl = -((x : Int) + 1) := by omega
              have hx3 : nl - (j + 1) = x := by omega
              have hx255 : x ≤ 255 := by omega
              rw [hx]
              have HX := hide' (And.intro hx (And.intro hx2 hx3))
              clear hx hx2 hx3
              go_wp2_with (at_builtin; refine wpList_ap31 rfl _ _ rfl w2.heap.size w2.heap.size (i + j) n (pickL z i ++ lowL nl j) rfl (HR.out.own.alloc _) ⟨wr.heap.size, 0, none⟩ _ rfl (one_cell wr _ 3) (by have := HNN.out; omega) ?_; intro w3 hown hgr; have HR2 := hide' (HR.out.step hown hgr); clear hown hgr)
              go_roundg (nl - (j + 1))
              case measure => have := HG.out; omega
              case rel => exact ⟨j + 1, rfl, by rw [HX.out.2.2], by omega, rfl, by rw [lowL_succ, ← List.append_assoc, HX.out.2.1]; exact HR2.out⟩
            · obtain rfl : j = nl := by omega
              rw [Nat.sub_self]
              clear hlt hjl HG
              have hnn : i + j = n := HNN.out.symm
              rw [hnn]
              obtain ⟨xs, hxs⟩ : ∃ xs, xs = pickL z i ++ lowL j j := ⟨_, rfl⟩
              rw [hnn, ← hxs] at HR
              have HXL := hide' (show xs.length = n by rw [hxs]; simp [pickL, lowL]; omega)
              clear hxs hnn
              have hmd := HM.out.nd.kept HR.out.bel
              have c17 := hmd.c17
              have c21 := hmd.c21
              have c22 := hmd.c22
              have c26 := hmd.set.c2
              have clog := hmd.log
              have HB := hide' (HM.out.bel.trans (HR.out.bel.mono HM.out.bel.size))
              clear hmd
              go_wp2_with fail
              go_loopg [120] n (fun g s120 wq => ∃ k : Nat, s120 = .int .i64 k ∧ k ≤ n ∧ g = n - k ∧ Hid (wq = wr))
              case atStart => exact ⟨0, rfl, by omega, by omega, rfl⟩
              case round =>
                obtain ⟨k, rfl, hkl, hg, HW⟩ := hrel
                obtain rfl := HW.out
                have HG := hide' hg
                clear hg HW
                have hn1279 : n ≤ 1279 := by have := HNN.out; omega
                by_cases hlt : k < n
                · have hlt2 : decide ((k : Int) < n) = true := by simp; omega
                  obtain ⟨q, hq⟩ : ∃ q, xs[k]? = some q := ⟨xs[k]'(by rw [HXL.out]; exact hlt), List.getElem?_eq_getElem _⟩
                  have hcq := HR.out.cell k q hq
                  have hstop := hide' (stop_off Nb _ q wr (.inl rfl) c17)
                  clear hq
                  go_wp2_with (go_at_call 6; refine hstop.out.mono ?_; rintro e w4 ⟨rfl, rfl⟩)
                  go_roundg (n - (k + 1))
                  case measure => have := HG.out; omega
                  case rel => exact ⟨k + 1, by push_cast; rfl, by omega, rfl, rfl⟩
                · obtain rfl : k = n := by omega
                  have hlt2 : decide ((k : Int) < k) = false := by simp
                  go_wp2_with fail
                  go_ret
                  exact ⟨rfl, HB.out⟩
    )
  · go_enter Yba.func3, Yba.ntmps3
    go_wp2_with (go_at_call 4; refine hcall.out.mono ?_; rintro e w1 ⟨Nb, Eb, Pb, ph, rfl, hPb, hPE, hEN, hnw, hpe, hlog, hfe, hb⟩; have HF := hide' (fill_law w w1 Nb Eb Pb nl nh d s ph { data := #[99, 111, 111, 114, 100, 105, 110, 97, 116, 105, 110, 103] } ⟨hPb, hPE, hEN⟩ ⟨hpe, hlog, hfe, hb⟩ hnw hnl); have c21 := hnw.c21; have c17 := hnw.c17; have c15 := hnw.c15; have fN := hnw.fz; clear hPb hPE hEN hnw hpe hlog hfe hb)
    go_region_with (go_at_call 5; refine HF.out.mono ?_; rintro e w2 ⟨rfl, pb, wc, HM⟩)
    all_goals (
      clear HF c21 c17 c15 fN hcall
      clear w1
      go_wp2_with fail
      have HS := hide' (Rw.start w2 n (by have := HNN.out; omega))
      go_loopg [20, 91] len5 (fun g s20 s91 wr => ∃ i : Nat, s20 = .slice (some ⟨w2.heap.size, 0, none⟩) i n ∧ s91 = .int .i64 i ∧ i ≤ len5 ∧ g = len5 - i ∧ Hid (Rw w2 w2.heap.size wr w2.heap.size n i (pickL z i)))
      case atStart => exact ⟨0, rfl, rfl, by omega, by omega, HS.out⟩
      case round =>
        obtain ⟨i, rfl, rfl, hil, hg, HR⟩ := hrel
        clear HS hmk
        have HG := hide' hg
        clear hg
        by_cases hlt : i < len5
        · have hlt2 : decide ((i : Int) < len5) = true := by simp; omega
          obtain ⟨x, rfl, hc, hz0, hz1⟩ := HZ.out i hlt
          have hcw : wr.cell? (x.add i) = some (.int .u8 (z i)) := by
            have hxb : (x.add i).block < w.heap.size := World.block_lt_of_cell? w _ hc
            have := HM.out.bel.size
            rw [HR.out.bel.cell (p := x.add i) (by omega), HM.out.bel.cell (p := x.add i) hxb]; exact hc
          clear hc
          go_wp2_with (at_builtin; refine wpList_ap31 rfl _ _ rfl w2.heap.size w2.heap.size i n (pickL z i) rfl (HR.out.own.alloc _) ⟨wr.heap.size, 0, none⟩ (z i - 128) rfl (one_cell wr _ 3) (by have := HNN.out; omega) ?_; intro w3 hown hgr; have HR2 := hide' (HR.out.step hown hgr); clear hown hgr)
          go_roundg (len5 - (i + 1))
          case measure => have := HG.out; omega
          case rel => exact ⟨i + 1, rfl, by push_cast; rfl, by omega, rfl, by rw [pickL_succ]; exact HR2.out⟩
        · obtain rfl : i = len5 := by omega
          have hlt2 : decide ((i : Int) < i) = false := by simp
          clear hlt hil HG
          go_wp2_with fail
          go_loopg [20, 23] nl (fun g s20 s23 wr => ∃ j : Nat, s20 = .slice (some ⟨w2.heap.size, 0, none⟩) (i + j) n ∧ s23 = .int .i64 ((nl - j : Nat) : Int) ∧ j ≤ nl ∧ g = nl - j ∧ Hid (Rw w2 w2.heap.size wr w2.heap.size n (i + j) (pickL z i ++ lowL nl j)))
          case atStart => exact ⟨0, rfl, by simp, by omega, by omega, by show Rw _ _ _ _ _ _ _; simpa [lowL] using HR.out⟩
          case round =>
            clear HR
            obtain ⟨j, rfl, rfl, hjl, hg, HR⟩ := hrel
            have HG := hide' hg
            clear hg
            by_cases hlt : j < nl
            · obtain ⟨x, hx⟩ : ∃ x, nl - j = x + 1 := ⟨nl - j - 1, by omega⟩
              have hx2 : (j : Int) - nl = -((x : Int) + 1) := by omega
              have hx3 : nl - (j + 1) = x := by omega
              have hx255 : x ≤ 255 := by omega
              rw [hx]
              have HX := hide' (And.intro hx (And.intro hx2 hx3))
              clear hx hx2 hx3
              go_wp2_with (at_builtin; refine wpList_ap31 rfl _ _ rfl w2.heap.size w2.heap.size (i + j) n (pickL z i ++ lowL nl j) rfl (HR.out.own.alloc _) ⟨wr.heap.size, 0, none⟩ _ rfl (one_cell wr _ 3) (by have := HNN.out; omega) ?_; intro w3 hown hgr; have HR2 := hide' (HR.out.step hown hgr); clear hown hgr)
              go_roundg (nl - (j + 1))
              case measure => have := HG.out; omega
              case rel => exact ⟨j + 1, rfl, by rw [HX.out.2.2], by omega, rfl, by rw [lowL_succ, ← List.append_assoc, HX.out.2.1]; exact HR2.out⟩
            · obtain rfl : j = nl := by omega
              rw [Nat.sub_self]
              clear hlt hjl HG
              have hnn : i + j = n := HNN.out.symm
              rw [hnn]
              obtain ⟨xs, hxs⟩ : ∃ xs, xs = pickL z i ++ lowL j j := ⟨_, rfl⟩
              rw [hnn, ← hxs] at HR
              have HXL := hide' (show xs.length = n by rw [hxs]; simp [pickL, lowL]; omega)
              clear hxs hnn
              have hmd := HM.out.nd.kept HR.out.bel
              have c17 := hmd.c17
              have c21 := hmd.c21
              have c22 := hmd.c22
              have c26 := hmd.set.c2
              have clog := hmd.log
              have HB := hide' (HM.out.bel.trans (HR.out.bel.mono HM.out.bel.size))
              clear hmd
              go_wp2_with fail
              go_loopg [120] n (fun g s120 wq => ∃ k : Nat, s120 = .int .i64 k ∧ k ≤ n ∧ g = n - k ∧ Hid (wq = wr))
              case atStart => exact ⟨0, rfl, by omega, by omega, rfl⟩
              case round =>
                obtain ⟨k, rfl, hkl, hg, HW⟩ := hrel
                obtain rfl := HW.out
                have HG := hide' hg
                clear hg HW
                have hn1279 : n ≤ 1279 := by have := HNN.out; omega
                by_cases hlt : k < n
                · have hlt2 : decide ((k : Int) < n) = true := by simp; omega
                  obtain ⟨q, hq⟩ : ∃ q, xs[k]? = some q := ⟨xs[k]'(by rw [HXL.out]; exact hlt), List.getElem?_eq_getElem _⟩
                  have hcq := HR.out.cell k q hq
                  have hstop := hide' (stop_off Nb _ q wr (.inr rfl) c17)
                  clear hq
                  go_wp2_with (go_at_call 6; refine hstop.out.mono ?_; rintro e w4 ⟨rfl, rfl⟩)
                  go_roundg (n - (k + 1))
                  case measure => have := HG.out; omega
                  case rel => exact ⟨k + 1, by push_cast; rfl, by omega, rfl, rfl⟩
                · obtain rfl : k = n := by omega
                  have hlt2 : decide ((k : Int) < k) = false := by simp
                  go_wp2_with fail
                  go_ret
                  exact ⟨rfl, HB.out⟩
    )
end Go.Proofs.Ybulkcgke
