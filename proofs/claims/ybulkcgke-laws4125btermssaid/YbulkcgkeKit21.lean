import Derived.Test.YbulkcgkeKit20
namespace Go.Proofs.Ybulkcgke
set_option linter.unusedSimpArgs false
set_option linter.unusedVariables false
open Go.ChangeShapes Go.WideShapes Go.ChangeAt Go.RowKit Go.Shelf Go.Lib


set_option maxRecDepth 20000 in
set_option maxHeartbeats 4000000 in
theorem law_on (c nl nh d S s len5 cap5 : Nat) (a5 : Option Addr) (z : Nat → Int) (w : World)
    (hm : ((c : Int) % 3 = 0)) (hnl : nl ≤ 255) (hnh : nh ≤ 255) (hlen : len5 ≤ 1024) (hd : d ≤ 65535) (hs4 : (S : Int) / 4 = (s : Nat)) (hs : s < 4611686018427387904)
    (hz : ∀ i, i < len5 → ∃ x, a5 = some x ∧ w.cell? (x.add i) = some (.int .u8 (z i)) ∧ 0 ≤ z i ∧ z i < 256) :
    Calls Yba.prog 3 #[.int .u8 c, .int .u8 nl, .int .u8 nh, .int .u64 S, .int .u16 d, .slice a5 len5 cap5] w fun e w' => e = .returned (.bool true) ∧ Below w.heap.size w w' := by
  have hcall := hide' (build_calls nl nh d w hnl hnh)
  have hl2 : decide ((1024 : Int) < len5) = false := by simp; omega
  have HZ := hide' hz
  have HSS := hide' hs
  obtain ⟨n, hn⟩ : ∃ n, n = len5 + nl := ⟨_, rfl⟩
  have hmk : ∀ w : World, (Instr.makeSlice 31 (.int .i64 0) (.int .i64 ((len5 : Int) + nl))).run Yba.prog w = .ok (.slice (some ⟨w.heap.size, 0, none⟩) 0 n) (w.alloc (.cells (madeCells #[.int .i64 0] n) 3)) := fun w => by
    rw [show (len5 : Int) + nl = ((n : Nat) : Int) from by omega]; exact mk31 n (by omega) w
  have HNN := hide' hn
  clear hz hn hs
  go_enter Yba.func3, Yba.ntmps3
  go_wp2_with (go_at_call 4; refine hcall.out.mono ?_; rintro e w1 ⟨Nb, Eb, Pb, ph, rfl, hPb, hPE, hEN, hnw, hpe, hlog, hfe, hb⟩; have HF := hide' (fill_law w w1 Nb Eb Pb nl nh d s ph { data := #[97, 119, 97, 105, 116, 105, 110, 103, 32, 116, 101, 114, 109, 115] } ⟨hPb, hPE, hEN⟩ ⟨hpe, hlog, hfe, hb⟩ hnw hnl); have c21 := hnw.c21; have c17 := hnw.c17; have c15 := hnw.c15; have fN := hnw.fz; clear hPb hPE hEN hnw hpe hlog hfe hb)
  go_region_with (go_at_call 5; refine HF.out.mono ?_; rintro e w2 ⟨rfl, pb, wc, HM⟩)
  all_goals (
    clear HF c21 c17 c15 fN hcall
    clear w1
    go_wp2_with fail
    have HS := hide' (Rw.start w2 n (by have := HNN.out; omega))
    go_loopg [20, 91] len5 (fun g s20 s91 wr => ∃ i : Nat, s20 = .slice (some ⟨w2.heap.size, 0, none⟩) i n ∧ s91 = .int .i64 i ∧ i ≤ len5 ∧ g = len5 - i ∧ Hid (Rw w2 w2.heap.size wr w2.heap.size n i (pickL z i)))
    case atStart => exact ⟨0, rfl, rfl, by omega, by omega, HS.out⟩
    case round =>
      obtain ⟨i, rfl, rfl, hil, hg, HR⟩ := hrel
      clear HS hmk
      have HG := hide' hg
      clear hg
      by_cases hlt : i < len5
      · as_aux_lemma =>
          have hlt2 : decide ((i : Int) < len5) = true := by simp; omega
          obtain ⟨x, rfl, hc, hz0, hz1⟩ := HZ.out i hlt
          have hcw : wr.cell? (x.add i) = some (.int .u8 (z i)) := by
            have hxb : (x.add i).block < w.heap.size := World.block_lt_of_cell? w _ hc
            have := HM.out.bel.size
            rw [HR.out.bel.cell (p := x.add i) (by omega), HM.out.bel.cell (p := x.add i) hxb]; exact hc
          clear hc
          go_wp2_with (at_builtin; refine wpList_ap31 rfl _ _ rfl w2.heap.size w2.heap.size i n (pickL z i) rfl (HR.out.own.alloc _) ⟨wr.heap.size, 0, none⟩ (z i - 128) rfl (one_cell wr _ 3) (by have := HNN.out; omega) ?_; intro w3 hown hgr; have HR2 := hide' (HR.out.step hown hgr); clear hown hgr)
          go_roundg (len5 - (i + 1))
          case measure => have := HG.out; omega
          case rel => exact ⟨i + 1, rfl, by push_cast; rfl, by omega, rfl, by rw [pickL_succ]; exact HR2.out⟩
      · as_aux_lemma =>
          obtain rfl : i = len5 := by omega
          have hlt2 : decide ((i : Int) < i) = false := by simp
          clear hlt hil HG
          go_wp2_with fail
          go_loopg [20, 23] nl (fun g s20 s23 wr => ∃ j : Nat, s20 = .slice (some ⟨w2.heap.size, 0, none⟩) (i + j) n ∧ s23 = .int .i64 ((nl - j : Nat) : Int) ∧ j ≤ nl ∧ g = nl - j ∧ Hid (Rw w2 w2.heap.size wr w2.heap.size n (i + j) (pickL z i ++ lowL nl j)))
          case atStart => exact ⟨0, rfl, by simp, by omega, by omega, by show Rw _ _ _ _ _ _ _; simpa [lowL] using HR.out⟩
          case round =>
            clear HR
            obtain ⟨j, rfl, rfl, hjl, hg, HR⟩ := hrel
            have HG := hide' hg
            clear hg
            by_cases hlt : j < nl
            · as_aux_lemma =>
                obtain ⟨x, hx⟩ : ∃ x, nl - j = x + 1 := ⟨nl - j - 1, by omega⟩
                have hx2 : (j : Int) - nl = -((x : Int) + 1) := by omega
                have hx3 : nl - (j + 1) = x := by omega
                have hx255 : x ≤ 255 := by omega
                rw [hx]
                have HX := hide' (And.intro hx (And.intro hx2 hx3))
                clear hx hx2 hx3
                go_wp2_with (at_builtin; refine wpList_ap31 rfl _ _ rfl w2.heap.size w2.heap.size (i + j) n (pickL z i ++ lowL nl j) rfl (HR.out.own.alloc _) ⟨wr.heap.size, 0, none⟩ _ rfl (one_cell wr _ 3) (by have := HNN.out; omega) ?_; intro w3 hown hgr; have HR2 := hide' (HR.out.step hown hgr); clear hown hgr)
                go_roundg (nl - (j + 1))
                case measure => have := HG.out; omega
                case rel => exact ⟨j + 1, rfl, by rw [HX.out.2.2], by omega, rfl, by rw [lowL_succ, ← List.append_assoc, HX.out.2.1]; exact HR2.out⟩
            · as_aux_lemma =>
                obtain rfl : j = nl := by omega
                rw [Nat.sub_self]
                clear hlt hjl HG
                have hnn : i + j = n := HNN.out.symm
                rw [hnn]
                obtain ⟨xs, hxs⟩ : ∃ xs, xs = pickL z i ++ lowL j j := ⟨_, rfl⟩
                rw [hnn, ← hxs] at HR
                have HXL := hide' (show xs.length = n by rw [hxs]; simp [pickL, lowL]; omega)
                clear hxs hnn
                obtain ⟨Q, hQ⟩ : ∃ Q, Q = q0 s (j + nh + 1) := ⟨_, rfl⟩
                have hT := q0_fits s j nh HSS.out hnl hnh
                rw [← hQ] at hT
                obtain ⟨T, hTT⟩ : ∃ T, T = termA s j nh := ⟨_, rfl⟩
                rw [← hTT] at hT
                have HQ := hide' hQ
                have HT := hide' hTT
                clear hQ hTT
                go_upto_if 177 with fail
                go_cut [28] (fun s28 wq => s28 = .int .u64 Q ∧ wq = wr)
                case first =>
                  have hd1 := q0_div s (j + nh + 1) HSS.out
                  push_cast at hd1
                  have hd2 := q0_div1 s (j + nh + 1) HSS.out
                  push_cast at hd2
                  have HD := hide' (And.intro hd1 hd2)
                  clear hd1 hd2
                  by_cases h0 : s % (j + nh + 1) = 0
                  · as_aux_lemma =>
                      have h00 : (s : Int) % ((j : Int) + nh + 1) = 0 := by have := congrArg (fun x : Nat => (x : Int)) h0; push_cast at this; exact this
                      have hb : ((s : Int) % ((j : Int) + nh + 1) != 0) = false := by simp [h00]
                      clear h00
                      go_wp2_with fail
                      go_meet
                      case rel => exact ⟨by rw [HQ.out, q0, if_pos h0, HD.out.1]; push_cast; rfl, rfl⟩
                  · as_aux_lemma =>
                      have h00 : ¬ ((s : Int) % ((j : Int) + nh + 1) = 0) := by intro e; apply h0; have : ((s % (j + nh + 1) : Nat) : Int) = 0 := by push_cast; exact e
                                                                                omega
                      have hb : ((s : Int) % ((j : Int) + nh + 1) != 0) = true := by simp [h00]
                      clear h00
                      go_wp2_with fail
                      go_meet
                      case rel => exact ⟨by rw [HQ.out, q0, if_neg h0, HD.out.1]; push_cast; rw [HD.out.2], rfl⟩
                case rest =>
                  obtain ⟨rfl, hw⟩ := hcut
                  subst hw
                  have hmk2 : ∀ w : World, (Instr.makeSlice 51 (.int .i64 ((j : Int) + 1)) (.int .i64 ((j : Int) + 1))).run Yba.prog w = .ok (.slice (some ⟨w.heap.size, 0, none⟩) (j + 1) (j + 1)) (w.alloc (.cells (madeCells #[.bool false] (j + 1)) 4)) := fun w => by
                    rw [show (j : Int) + 1 = ((j + 1 : Nat) : Int) from by omega]; exact mk51 (j + 1) (by omega) w
                  go_wp2_with fail
                  have HS := hide' (Rm.start wc j)
                  go_loopg [31] j (fun g s31 wq => ∃ k : Nat, s31 = .int .i64 ((k : Int) + 1) ∧ k ≤ j ∧ g = j - k ∧ Hid (Rm wc wq j (fun e => decide (1 ≤ e ∧ e ≤ k))))
                  case atStart => exact ⟨0, by simp, by omega, by omega, HS.out.cong fun k _ => by simp; omega⟩
                  case round =>
                    obtain ⟨k, rfl, hkj, hg, HRM⟩ := hrel
                    clear HS hmk2
                    have HG := hide' hg
                    clear hg
                    by_cases hlt : k < j
                    · as_aux_lemma =>
                        have hlt2 : decide ((k : Int) + 1 ≤ j) = true := by simp; omega
                        have hlt3 : (k : Int) + 1 ≤ j := by omega
                        have hck := HRM.out.cell (k + 1) (by omega)
                        have hfk := HRM.out.fz
                        go_wp2_with fail
                        go_roundg (j - (k + 1))
                        case measure => have := HG.out; omega
                        case rel => exact ⟨k + 1, by push_cast; rfl, by omega, rfl, (HRM.out.put (k + 1) (by omega) true).cong fun e he => by
                            by_cases h : e = k + 1
                            · simp [h]
                            · simp only [h, if_false]; rw [Bool.eq_iff_iff]; simp only [decide_eq_true_eq]; omega⟩
                    · as_aux_lemma =>
                        obtain rfl : k = j := by omega
                        have hlt2 : decide ((k : Int) + 1 ≤ k) = false := by simp; omega
                        have hlt3 : ¬ ((k : Int) + 1 ≤ k) := by omega
                        clear hlt2 hlt3 hlt HG
                        have HRUN0 := hide' (run_start HM.out HR.out HRM.out)
                        go_wp2_with fail
                        go_loopg [32, 33, 201] n (fun g s32 s33 s201 wq => ∃ e : Nat, s201 = .int .i64 e ∧ e ≤ n ∧ g = n - e ∧ ((s33 = .bool false ∧ ∃ (sz : Nat), s32 = .int .i64 sz ∧ (k = 0 ∨ 0 < sz) ∧ sz ≤ k ∧ Hid (∃ SS cc, Run w wq Nb Eb Pb w2.heap.size wc.heap.size k nh cc d s sz ph pb SS xs)) ∨ (s33 = .bool true ∧ (∃ sz : Int, s32 = .int .i64 sz) ∧ Hid (Fin' w wq Nb Eb w2.heap.size T xs))))
                        case atStart => exact ⟨0, rfl, by omega, by omega, .inl ⟨rfl, k, rfl, by omega, by omega, _, _, HRUN0.out⟩⟩
                        case round =>
                          obtain ⟨e, rfl, hen, hg, hcase⟩ := hrel
                          have HG := hide' hg
                          clear hg HRUN0 HRM HR HM
                          have hn1279 : n ≤ 1279 := by have := HNN.out; omega
                          by_cases hlt : e < n
                          · as_aux_lemma =>
                              have hlt2 : decide ((e : Int) < n) = true := by simp; omega
                              obtain ⟨q, hq⟩ : ∃ q, xs[e]? = some q := ⟨xs[e]'(by rw [HXL.out]; exact hlt), List.getElem?_eq_getElem _⟩
                              rcases hcase with ⟨rfl, sz, rfl, hpos, hle, HRU⟩ | ⟨rfl, ⟨cz, rfl⟩, HFIN⟩
                              · as_aux_lemma =>
                                  obtain ⟨SS, cc, hrun⟩ := HRU.out
                                  have hcq := hrun.row e q hq
                                  have clog := hrun.nd.log
                                  have nr1 := hrun.r.1
                                  have nr2 := hrun.r.2.1
                                  have HRUN := hide' hrun
                                  have HB := hide' (And.intro hnl (And.intro hnh hd))
                                  clear hrun HRU hq
                                  by_cases hlow : q ≤ -1 ∧ -(k : Int) ≤ q
                                  · as_aux_lemma =>
                                      obtain ⟨kk, rfl⟩ : ∃ kk : Nat, q = -(kk : Int) := ⟨(-q).toNat, by omega⟩
                                      have h1 : 1 ≤ kk := by omega
                                      have h2 : kk ≤ k := by omega
                                      have hq1 : decide (-(kk : Int) ≤ -1) = true := by simp; omega
                                      have hq2 : decide (-(k : Int) ≤ -(kk : Int)) = true := by simp; omega
                                      have hq3 : -(kk : Int) ≤ -1 := by omega
                                      have hq4 : -(k : Int) ≤ -(kk : Int) := by omega
                                      have hq5 : kk < k + 1 := by omega
                                      clear hlow
                                      cases hS : SS (k - kk)
                                      · as_aux_lemma =>
                                          have hp : 0 < sz := by omega
                                          have HH := hide' (show hit k SS (-(kk : Int)) = false by rw [hit_law k SS kk h1 h2]; exact hS)
                                          have hstop := hide' (stop_A1n _ HRUN.out HB.out.1 hle hp HH.out)
                                          go_wp2_with (go_at_call 6; refine hstop.out.mono ?_; rintro e' w4 ⟨rfl, HRN, y0, y17, y26, y21, yr⟩; have yk := yr kk h1 h2; rw [hS] at yk; clear yr)
                                          go_roundg (n - (e + 1))
                                          case measure => have := HG.out; omega
                                          case rel => exact ⟨e + 1, by push_cast; rfl, by omega, rfl, .inl ⟨rfl, sz, rfl, .inr hp, hle, (by obtain ⟨SS', h⟩ := HRN.out; exact ⟨SS', _, h⟩)⟩⟩
                                      · as_aux_lemma =>
                                          obtain ⟨sz', rfl⟩ : ∃ sz', sz = sz' + 1 := ⟨sz - 1, by omega⟩
                                          by_cases hl : 0 < sz'
                                          · as_aux_lemma =>
                                              have hstop := hide' (stop_A1h kk h1 h2 HRUN.out HB.out.1 hle hl hS)
                                              go_wp2_with (go_at_call 6; refine hstop.out.mono ?_; rintro e' w4 ⟨rfl, HRN, y0, y17, y26, y21, yk, yf⟩)
                                              go_roundg (n - (e + 1))
                                              case measure => have := HG.out; omega
                                              case rel => exact ⟨e + 1, by push_cast; rfl, by omega, rfl, .inl ⟨rfl, sz', rfl, .inr hl, by omega, (by obtain ⟨SS', h⟩ := HRN.out; exact ⟨SS', _, h⟩)⟩⟩
                                          · as_aux_lemma =>
                                              obtain rfl : sz' = 0 := by omega
                                              have hstop := stop_A2 (-(kk : Int)) HRUN.out HB.out.1 HB.out.2.1 HB.out.2.2 HSS.out hle (fun _ => by omega) (by rw [hit_law k SS kk h1 h2, hS]; simp)
                                              rw [← HT.out] at hstop
                                              have HSTOP := hide' hstop
                                              clear hstop
                                              go_wp2_with (first
                                                | (go_at_call 6; refine HSTOP.out.mono ?_; rintro e' w4 ⟨rfl, lg, lc, HLAST⟩; have t17 := HLAST.out.c17; have t21 := HLAST.out.c21; have t22 := HLAST.out.c22; have t24 := HLAST.out.c24; have t26 := HLAST.out.c26; have tlog := HLAST.out.log; have yk := HLAST.out.rem kk h1 h2; rw [hS] at yk; have yf := HLAST.out.fr)
                                                | (go_at_call 7; refine (Term_calls Nb T _ (by first | exact HLAST.out.c19 | (rw [World.cell?_setCell_other _ _ _ _ (by simp [nr1])]; exact HLAST.out.c19)) (by first | exact HLAST.out.c20 | (rw [World.cell?_setCell_other _ _ _ _ (by simp [nr1])]; exact HLAST.out.c20))).mono ?_; rintro e' w5 ⟨rfl, rfl⟩)
                                                | (go_at_call 8; refine (HLAST.out.coord _ (fun x hx => by first | rfl | exact World.cell?_setCell_other _ _ _ _ (by intro e'; subst e'; exact hx rfl))).mono ?_; rintro e' w5 ⟨rfl, rfl⟩))
                                              go_roundg (n - (e + 1))
                                              case measure => have := HG.out; omega
                                              case rel => exact ⟨e + 1, by push_cast; rfl, by omega, rfl, .inr ⟨rfl, ⟨_, rfl⟩, HLAST.out.fin2 kk⟩⟩
                                  · as_aux_lemma =>
                                      by_cases hq1 : q ≤ -1
                                      · as_aux_lemma =>
                                          have hq2 : ¬ (-(k : Int) ≤ q) := fun h => hlow ⟨hq1, h⟩
                                          have hq3 : decide (q ≤ -1) = true := by simpa using hq1
                                          have hq4 : decide (-(k : Int) ≤ q) = false := by simpa using hq2
                                          by_cases hp : 0 < sz
                                          · as_aux_lemma =>
                                              have HH := hide' (hit_out k SS q hlow)
                                              have hstop := hide' (stop_A1n _ HRUN.out HB.out.1 hle hp HH.out)
                                              go_wp2_with (go_at_call 6; refine hstop.out.mono ?_; rintro e' w4 ⟨rfl, HRN, y0, y17, y26, y21, yr⟩; clear yr)
                                              go_roundg (n - (e + 1))
                                              case measure => have := HG.out; omega
                                              case rel => exact ⟨e + 1, by push_cast; rfl, by omega, rfl, .inl ⟨rfl, sz, rfl, .inr hp, hle, (by obtain ⟨SS', h⟩ := HRN.out; exact ⟨SS', _, h⟩)⟩⟩
                                          · as_aux_lemma =>
                                              obtain rfl : sz = 0 := by omega
                                              have HH := hide' (hit_out k SS q hlow)
                                              have hstop := stop_A2 q HRUN.out HB.out.1 HB.out.2.1 HB.out.2.2 HSS.out hle (fun h => by rw [HH.out] at h; cases h) (by rw [HH.out]; simp)
                                              rw [← HT.out] at hstop
                                              have HSTOP := hide' hstop
                                              clear hstop
                                              go_wp2_with (first
                                                | (go_at_call 6; refine HSTOP.out.mono ?_; rintro e' w4 ⟨rfl, lg, lc, HLAST⟩; have t17 := HLAST.out.c17; have t21 := HLAST.out.c21; have t22 := HLAST.out.c22; have t24 := HLAST.out.c24; have t26 := HLAST.out.c26; have tlog := HLAST.out.log; skip)
                                                | (go_at_call 7; refine (Term_calls Nb T _ (by first | exact HLAST.out.c19 | (rw [World.cell?_setCell_other _ _ _ _ (by simp [nr1])]; exact HLAST.out.c19)) (by first | exact HLAST.out.c20 | (rw [World.cell?_setCell_other _ _ _ _ (by simp [nr1])]; exact HLAST.out.c20))).mono ?_; rintro e' w5 ⟨rfl, rfl⟩)
                                                | (go_at_call 8; refine (HLAST.out.coord _ (fun x hx => by first | rfl | exact World.cell?_setCell_other _ _ _ _ (by intro e'; subst e'; exact hx rfl))).mono ?_; rintro e' w5 ⟨rfl, rfl⟩))
                                              go_roundg (n - (e + 1))
                                              case measure => have := HG.out; omega
                                              case rel => exact ⟨e + 1, by push_cast; rfl, by omega, rfl, .inr ⟨rfl, ⟨_, rfl⟩, HLAST.out.fin⟩⟩
                                      · as_aux_lemma =>
                                          have hq3 : decide (q ≤ -1) = false := by simpa using hq1
                                          by_cases hp : 0 < sz
                                          · as_aux_lemma =>
                                              have HH := hide' (hit_out k SS q hlow)
                                              have hstop := hide' (stop_A1n _ HRUN.out HB.out.1 hle hp HH.out)
                                              go_wp2_with (go_at_call 6; refine hstop.out.mono ?_; rintro e' w4 ⟨rfl, HRN, y0, y17, y26, y21, yr⟩; clear yr)
                                              go_roundg (n - (e + 1))
                                              case measure => have := HG.out; omega
                                              case rel => exact ⟨e + 1, by push_cast; rfl, by omega, rfl, .inl ⟨rfl, sz, rfl, .inr hp, hle, (by obtain ⟨SS', h⟩ := HRN.out; exact ⟨SS', _, h⟩)⟩⟩
                                          · as_aux_lemma =>
                                              obtain rfl : sz = 0 := by omega
                                              have HH := hide' (hit_out k SS q hlow)
                                              have hstop := stop_A2 q HRUN.out HB.out.1 HB.out.2.1 HB.out.2.2 HSS.out hle (fun h => by rw [HH.out] at h; cases h) (by rw [HH.out]; simp)
                                              rw [← HT.out] at hstop
                                              have HSTOP := hide' hstop
                                              clear hstop
                                              go_wp2_with (first
                                                | (go_at_call 6; refine HSTOP.out.mono ?_; rintro e' w4 ⟨rfl, lg, lc, HLAST⟩; have t17 := HLAST.out.c17; have t21 := HLAST.out.c21; have t22 := HLAST.out.c22; have t24 := HLAST.out.c24; have t26 := HLAST.out.c26; have tlog := HLAST.out.log; skip)
                                                | (go_at_call 7; refine (Term_calls Nb T _ (by first | exact HLAST.out.c19 | (rw [World.cell?_setCell_other _ _ _ _ (by simp [nr1])]; exact HLAST.out.c19)) (by first | exact HLAST.out.c20 | (rw [World.cell?_setCell_other _ _ _ _ (by simp [nr1])]; exact HLAST.out.c20))).mono ?_; rintro e' w5 ⟨rfl, rfl⟩)
                                                | (go_at_call 8; refine (HLAST.out.coord _ (fun x hx => by first | rfl | exact World.cell?_setCell_other _ _ _ _ (by intro e'; subst e'; exact hx rfl))).mono ?_; rintro e' w5 ⟨rfl, rfl⟩))
                                              go_roundg (n - (e + 1))
                                              case measure => have := HG.out; omega
                                              case rel => exact ⟨e + 1, by push_cast; rfl, by omega, rfl, .inr ⟨rfl, ⟨_, rfl⟩, HLAST.out.fin⟩⟩
                              · as_aux_lemma =>
                                  have hcq := HFIN.out.row e q hq
                                  have x17 := HFIN.out.c17
                                  have x21 := HFIN.out.c21
                                  obtain ⟨lq, lL, lc, xlog⟩ := HFIN.out.log
                                  have hstop := hide' (stop_off Nb _ q wr (.inr rfl) x17)
                                  clear hq
                                  go_wp2_with (go_at_call 6; refine hstop.out.mono ?_; rintro e' w4 ⟨rfl, rfl⟩)
                                  go_roundg (n - (e + 1))
                                  case measure => have := HG.out; omega
                                  case rel => exact ⟨e + 1, by push_cast; rfl, by omega, rfl, .inr ⟨rfl, ⟨cz, rfl⟩, HFIN⟩⟩
                          · as_aux_lemma =>
                              obtain rfl : e = n := by omega
                              have hlt2 : decide ((e : Int) < e) = false := by simp
                              rcases hcase with ⟨rfl, sz, rfl, hpos, hle, HRU⟩ | ⟨rfl, ⟨cz, rfl⟩, HFIN⟩
                              · as_aux_lemma =>
                                  go_wp2_with fail
                                  go_ret
                                  obtain ⟨SS, cc, hrun⟩ := HRU.out
                                  exact ⟨rfl, hrun.bel⟩
                              · as_aux_lemma =>
                                  go_wp2_with fail
                                  go_ret
                                  exact ⟨rfl, HFIN.out.bel⟩
  )
end Go.Proofs.Ybulkcgke
