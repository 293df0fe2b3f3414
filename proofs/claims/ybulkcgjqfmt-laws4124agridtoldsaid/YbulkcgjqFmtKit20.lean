import Derived.Test.YbulkcgjqFmtConJ
import Derived.Test.YbulkcgjqFmtKit19
namespace Go.Proofs.YbulkcgjqFmt
set_option linter.unusedSimpArgs false
set_option linter.unusedVariables false
open Go.ChangeShapes Go.WideShapes Go.ChangeAt Go.RowKit Go.Sort
/-- The connectivity, read. -/
structure Fn (w wq : World) (M fb sb : Nat) (fin : Plain.St) : Prop where
  ft : Ft wq fb M M
  rs : RS wq sb fin.sides
  c0 : wq.cell? ⟨sb + 1, 0, none⟩ = some (.slice (some ⟨fb, 0, none⟩) (M + 1) (M + 1))
  c1 : wq.cell? ⟨sb + 1, 1, none⟩ = some (.slice (some ⟨sb, 0, none⟩) (4 * M) (4 * M))
  c2 : wq.cell? ⟨sb + 1, 2, none⟩ = some (.int .i64 (fin.inn : Nat))
  c3 : wq.cell? ⟨sb + 1, 3, none⟩ = some (.int .i64 0)
  c4 : wq.cell? ⟨sb + 1, 4, none⟩ = some (.int .i64 (fin.bnd : Nat))
  bel : Below w.heap.size w wq
  s1 : sb + 1 < wq.heap.size
  len : fin.sides.length = 4 * M
theorem Fn.kept {w wq wz : World} {M fb sb : Nat} {fin : Plain.St} (h : Fn w wq M fb sb fin) (hb : Below wq.heap.size wq wz) : Fn w wz M fb sb fin := by
  have hc : ∀ i, wz.cell? ⟨sb + 1, i, none⟩ = wq.cell? ⟨sb + 1, i, none⟩ := fun i => hb.cell (p := ⟨sb + 1, i, none⟩) h.s1
  exact ⟨h.ft.kept hb h.ft.lt, h.rs.kept hb h.rs.lt, (hc 0).trans h.c0, (hc 1).trans h.c1, (hc 2).trans h.c2, (hc 3).trans h.c3, (hc 4).trans h.c4, h.bel.trans (hb.mono h.bel.size), Nat.lt_of_lt_of_le h.s1 hb.size, h.len⟩
theorem law_connect (nx ny : Nat) (k : KP) (w w1 : World) (Mb nb : Nat) (hx : 1 ≤ nx ∧ nx ≤ 8) (hy : 1 ≤ ny ∧ ny ≤ 8) (hK : Kn w w.heap.size k) (hg : Gr w w1 Mb (nx * ny) nx nb ((nx + 1) * (ny + 1))) :
    Calls Ybaf.prog 9 #[.pointer (some ⟨Mb, 0, none⟩)] w1 fun e w' => ∃ gb cE E fin Gb fb sb Eb, e = .returned (.tuple #[.pointer (some ⟨sb + 1, 0, none⟩), .nilIface]) ∧ ((∀ k, k < 4 * (nx * ny) → fin.sides.getD k (0, 0, 0) = Plain.expS (k / 4 % nx) (k / 4 / nx) (k % 4) nx ny) ∧ fin.inn = (nx - 1) * ny + nx * (ny - 1) ∧ fin.bnd = 2 * nx + 2 * ny) ∧ Rs w1 w' w1.heap.size Mb gb nb cE (nx * ny) ((nx + 1) * (ny + 1)) Gb fb sb Eb (4 * (nx * ny)) (Plain.cnG nx) k E fin := by
  have hM : nx * ny ≤ 8 * 8 := Nat.mul_le_mul hx.2 hy.2
  have hM0 : 0 < nx * ny := Nat.mul_pos hx.1 hy.1
  have hN : (nx + 1) * (ny + 1) ≤ 9 * 9 := Nat.mul_le_mul (by omega) (by omega)
  obtain ⟨c, p1, p2, A, E, fin, hcnt, hput, hal, hbk, hrun, hEl, hEe, hsd, hin, hbd⟩ := whole_facts nx ny hx hy
  obtain ⟨gb, cE, hm, hall⟩ := hg.mh hM0
  have hi1 : (nx - 1) * ny ≤ 8 * 8 := Nat.mul_le_mul (by omega) (by omega)
  have hi2 : nx * (ny - 1) ≤ 8 * 8 := Nat.mul_le_mul (by omega) (by omega)
  refine (connect_calls w1.heap.size Mb gb nb cE (nx * ny) ((nx + 1) * (ny + 1)) (4 * (nx * ny)) (Plain.cnG nx) k c p1 p2 A E fin w1 (Nat.le_refl _) ((hK.kept hg.bel).more hg.bel.size) hm hall (fun e c he hc => cnG_lt nx ny e c hx.1 he hc) rfl hM hN hcnt hput hal hbk hrun hEl hEe (by omega)).mono ?_
  rintro e w' ⟨Gb, fb, sb, Eb, rfl, hrs⟩
  exact ⟨gb, cE, E, fin, Gb, fb, sb, Eb, rfl, ⟨hsd, hin, hbd⟩, hrs⟩
set_option maxRecDepth 20000 in
set_option maxHeartbeats 0 in
theorem law_calls (k : KP) (a b : Nat) (ha : a < 256) (hb : b < 256) (w : World) (hK : Kn w w.heap.size k) :
    Calls Ybaf.prog 3 #[.int .u8 a, .int .u8 b] w fun e w' => e = .returned (.bool true) ∧ Below w.heap.size w w' := by
  obtain ⟨nx, hnx⟩ : ∃ nx, nx = 1 + a % 8 := ⟨_, rfl⟩
  obtain ⟨ny, hny⟩ : ∃ ny, ny = 1 + b % 8 := ⟨_, rfl⟩
  have hxb : 1 ≤ nx ∧ nx ≤ 8 := by omega
  have hyb : 1 ≤ ny ∧ ny ≤ 8 := by omega
  have dx : (1 : Int) + (a : Int) % 8 = (nx : Int) := by omega
  have dy : (1 : Int) + (b : Int) % 8 = (ny : Int) := by omega
  have HK := hide' hK
  have HB := hide' (And.intro hxb hyb)
  have HG := hide' (grid_calls nx ny w hxb hyb)
  clear hnx hny hxb hyb hK
  go_enter Ybaf.func3, Ybaf.ntmps3
  go_wp2_with (first
    | (go_at_call 8; refine HG.out.mono ?_; rintro e' w1 ⟨Mb, nb, rfl, hgr⟩; have HGR := hide' hgr; clear hgr; have HC := hide' (law_connect nx ny k w w1 Mb nb HB.out.1 HB.out.2 HK.out HGR.out))
    | (go_at_call 9; refine HC.out.mono ?_; rintro e' w2 ⟨gb, cE, E, fin, Gb, fb, sb, Eb, rfl, hfa, hrs⟩; have HFA := hide' hfa; have HRS := hide' hrs; clear hfa hrs))
  have HF : Hid (Fn w w2 (nx * ny) fb sb fin) := ⟨HRS.out.ft, HRS.out.rs, HRS.out.c0, HRS.out.c1, HRS.out.c2, HRS.out.c3, HRS.out.c4, HGR.out.bel.trans (HRS.out.cc.bel.mono HGR.out.bel.size), by have := HRS.out.se; have := HRS.out.re.lt; omega, HRS.out.len⟩
  clear HRS HGR HC HG HK
  obtain ⟨M, hM⟩ : ∃ M, M = nx * ny := ⟨_, rfl⟩
  have HM := hide' hM
  rw [← hM] at HF
  clear hM
  have hx8 : nx ≤ 8 := HB.out.1.2
  have hy8 : ny ≤ 8 := HB.out.2.2
  go_loopg [10] ny (fun g s10 wq => ∃ j : Nat, s10 = .int .i64 j ∧ j ≤ ny ∧ g = ny - j ∧ Hid (Fn w wq M fb sb fin))
  case atStart => exact ⟨0, rfl, by omega, by omega, HF.out⟩
  case round =>
    clear HF
    obtain ⟨j, rfl, hj, hg, HF⟩ := hrel
    have HG1 := hide' hg
    clear hg
    by_cases hjy : j < ny
    · have dj : decide ((j : Int) < ny) = true := by simp; omega
      go_wp2_with fail
      go_loopg [11] nx (fun g s11 wq => ∃ i : Nat, s11 = .int .i64 i ∧ i ≤ nx ∧ g = nx - i ∧ Hid (Fn w wq M fb sb fin))
      case atStart => exact ⟨0, rfl, by omega, by omega, HF.out⟩
      case round =>
        clear HF
        obtain ⟨i, rfl, hi, hg, HF⟩ := hrel
        have HG2 := hide' hg
        clear hg
        by_cases hix : i < nx
        · have di : decide ((i : Int) < nx) = true := by simp; omega
          obtain ⟨p, hp⟩ : ∃ p, p = j * nx := ⟨_, rfl⟩
          obtain ⟨el, hel⟩ : ∃ el, el = p + i := ⟨_, rfl⟩
          have hp1 : (j : Int) * (nx : Int) = (p : Int) := by rw [hp]; push_cast; rfl
          have hp2 : p ≤ 64 := by rw [hp]; have : j * nx ≤ 8 * 8 := Nat.mul_le_mul (by omega) (by omega); omega
          have he1 : (p : Int) + (i : Int) = (el : Int) := by rw [hel]; push_cast; rfl
          have helM : el < M := by
            rw [HM.out, hel, hp]
            have h1 : (j + 1) * nx ≤ ny * nx := Nat.mul_le_mul_right _ hjy
            rw [Nat.add_mul, Nat.one_mul, Nat.mul_comm ny nx] at h1
            omega
          have hM64 : M ≤ 64 := by rw [HM.out]; have : nx * ny ≤ 8 * 8 := Nat.mul_le_mul hx8 hy8; omega
          have hq : el / nx = j := by rw [hel, hp, Nat.mul_comm, Nat.mul_add_div (by omega), Nat.div_eq_of_lt hix]; rfl
          have hr : el % nx = i := by rw [hel, hp, Nat.mul_comm, Nat.mul_add_mod, Nat.mod_eq_of_lt hix]
          have HEL := hide' (And.intro hq (And.intro hr (And.intro helM hM64)))
          have HC := hide' (facesOf_calls (sb + 1) fb sb M (4 * M) (M + 1) el wr rfl hM64 helM HF.out.c0 HF.out.c1 (HF.out.ft.cell el (by omega)) (HF.out.ft.cell (el + 1) (by omega)))
          clear hp hel helM hM64 hq hr
          go_wp2_with (go_at_call 10; refine HC.out.mono ?_; rintro e' w3 ⟨rfl, hb3⟩; have HB3 := hide' hb3; clear hb3)
          have HF3 := hide' (HF.out.kept HB3.out)
          clear HB3 HC
          obtain ⟨b0, hb0⟩ : ∃ b0, b0 = 4 * el * 5 := ⟨_, rfl⟩
          rw [← hb0]
          have HB0 := hide' hb0
          clear hb0
          go_loopg [13] 4 (fun g s13 wq => ∃ f : Nat, s13 = .int .i64 f ∧ f ≤ 4 ∧ g = 4 - f ∧ Hid (Fn w wq M fb sb fin))
          case atStart => exact ⟨0, rfl, by omega, by omega, HF3.out⟩
          case round =>
            clear HF3
            obtain ⟨f, rfl, hf, hg, HF3⟩ := hrel
            have HG3 := hide' hg
            clear hg
            by_cases hf4 : f < 4
            · have df : decide ((f : Int) < 4) = true := by simp; omega
              obtain ⟨s, hs⟩ : ∃ s, s = Plain.expS i j f nx ny := ⟨_, rfl⟩
              have hcs : ∀ c, c < 5 → wr.cell? ⟨sb, b0 + f * 5 + c, none⟩ = (sideC s)[c]? := fun c hc => by
                have h1 := HFA.out.1 (4 * el + f) (by rw [← HM.out]; have := HEL.out.2.2.1; omega)
                rw [show (4 * el + f) / 4 = el from by omega, show (4 * el + f) % 4 = f from by omega, HEL.out.1, HEL.out.2.1, ← hs] at h1
                rw [show b0 + f * 5 + c = (4 * el + f) * 5 + c from by rw [HB0.out]; omega, HF3.out.rs.cell (4 * el + f) c (by rw [HF3.out.len]; have := HEL.out.2.2.1; omega) hc, h1]
              have s0 : wr.cell? ⟨sb, b0 + f * 5, none⟩ = some (.int .i32 s.1) := hcs 0 (by omega)
              have s1 : wr.cell? ⟨sb, b0 + f * 5 + 1, none⟩ = some (.int .i32 s.2.1) := hcs 1 (by omega)
              have s2 : wr.cell? ⟨sb, b0 + f * 5 + 2, none⟩ = some (.int .u8 (s.2.2 : Nat)) := hcs 2 (by omega)
              have s3 : wr.cell? ⟨sb, b0 + f * 5 + 3, none⟩ = some (.bool false) := hcs 3 (by omega)
              have s4 : wr.cell? ⟨sb, b0 + f * 5 + 4, none⟩ = some (.int .i64 0) := hcs 4 (by omega)
              have HCE : ∀ wq, Hid (Calls Ybaf.prog 11 #[.int .i64 i, .int .i64 j, .int .i64 f, .int .i64 nx, .int .i64 ny] wq fun e w' => e = .returned (.agg #[.int .i32 s.1, .int .i32 s.2.1, .int .u8 (s.2.2 : Nat), .bool false, .int .i64 0]) ∧ Below wq.heap.size wq w') := fun wq => by
                have := exp_calls i j f nx ny wq hix hjy hx8 hy8 hf4
                rw [expC_eq, ← hs] at this
                exact this
              clear hcs hs
              go_upto_region 19 with fail
              go_cut [70] from 60 to 70 (fun s70 wx => s70 = .bool false ∧ Hid (Fn w wx M fb sb fin))
              case first =>
                have HLT := hide' HF3.out.rs.lt
                have hfi : (f : Int) < 4 := by omega
                go_region_with (go_at_call 11; refine (HCE _).out.mono ?_; rintro e' w4 ⟨rfl, hb4⟩; have HB4 := hide' hb4; have t0 : w4.cell? ⟨sb, b0 + f * 5, none⟩ = some (.int .i32 s.1) := (hb4.cell (p := ⟨sb, b0 + f * 5, none⟩) HLT.out).trans s0; have t1 : w4.cell? ⟨sb, b0 + f * 5 + 1, none⟩ = some (.int .i32 s.2.1) := (hb4.cell (p := ⟨sb, b0 + f * 5 + 1, none⟩) HLT.out).trans s1; have t2 : w4.cell? ⟨sb, b0 + f * 5 + 2, none⟩ = some (.int .u8 (s.2.2 : Nat)) := (hb4.cell (p := ⟨sb, b0 + f * 5 + 2, none⟩) HLT.out).trans s2; have t3 : w4.cell? ⟨sb, b0 + f * 5 + 3, none⟩ = some (.bool false) := (hb4.cell (p := ⟨sb, b0 + f * 5 + 3, none⟩) HLT.out).trans s3; have t4 : w4.cell? ⟨sb, b0 + f * 5 + 4, none⟩ = some (.int .i64 0) := (hb4.cell (p := ⟨sb, b0 + f * 5 + 4, none⟩) HLT.out).trans s4; clear hb4)
                all_goals go_wp2_with fail
                all_goals go_meet
                all_goals exact ⟨rfl, HF3.out.kept (((Below.refl wr.heap.size wr).drew).trans HB4.out)⟩
              case rest =>
                obtain ⟨rfl, HF4⟩ := hcut
                go_wp2_with fail
                go_roundg (4 - (f + 1))
                case measure => have := HG3.out; omega
                case rel => exact ⟨f + 1, by push_cast; rfl, by omega, rfl, HF4.out⟩
            · have df : decide ((f : Int) < 4) = false := by simp; omega
              go_wp2_with fail
              go_roundg (nx - (i + 1))
              case measure => have := HG2.out; omega
              case rel => exact ⟨i + 1, by push_cast; rfl, by omega, rfl, HF3.out⟩
        · have di : decide ((i : Int) < nx) = false := by simp; omega
          go_wp2_with fail
          go_roundg (ny - (j + 1))
          case measure => have := HG1.out; omega
          case rel => exact ⟨j + 1, by push_cast; rfl, by omega, rfl, HF.out⟩
    · have dj : decide ((j : Int) < ny) = false := by simp; omega
      have c2 := HF.out.c2
      have c3 := HF.out.c3
      have c4 := HF.out.c4
      rw [HFA.out.2.1] at c2
      rw [HFA.out.2.2] at c4
      obtain ⟨q1, hq1⟩ : ∃ q1, q1 = (nx - 1) * ny := ⟨_, rfl⟩
      obtain ⟨q2, hq2⟩ : ∃ q2, q2 = nx * (ny - 1) := ⟨_, rfl⟩
      have e1 : ((nx : Int) - 1) * (ny : Int) = (q1 : Int) := by rw [hq1]; push_cast; rw [Int.natCast_sub HB.out.1.1]; rfl
      have e2 : (nx : Int) * ((ny : Int) - 1) = (q2 : Int) := by rw [hq2]; push_cast; rw [Int.natCast_sub HB.out.2.1]; rfl
      have b1 : q1 ≤ 64 := by rw [hq1]; have : (nx - 1) * ny ≤ 8 * 8 := Nat.mul_le_mul (by omega) (by omega); omega
      have b2 : q2 ≤ 64 := by rw [hq2]; have : nx * (ny - 1) ≤ 8 * 8 := Nat.mul_le_mul (by omega) (by omega); omega
      rw [← hq1, ← hq2] at c2
      have HQ := hide' (And.intro hq1 hq2)
      clear hq1 hq2
      go_wp2_with fail
      go_ret
      exact ⟨rfl, HF.out.bel⟩
end Go.Proofs.YbulkcgjqFmt
