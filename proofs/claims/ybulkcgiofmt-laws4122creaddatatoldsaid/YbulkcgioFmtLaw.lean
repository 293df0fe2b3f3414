import Derived.Test.YbulkcgioFmtKit14
import Derived.Deep.DeepCutAuto
import Derived.WalkSpells
namespace Go.Proofs.YbulkcgioFmt.Kit
set_option linter.unusedSimpArgs false
set_option linter.unusedVariables false
open Go.ChangeShapes Go.WideShapes Go.ChangeAt Go.RowKit
open Go.Extern.Stop Go.Stop Go.Extern

theorem alloc_last (v : World) (ob : Obj) : (v.alloc ob).heap[v.heap.size]? = some ob := by unfold World.alloc; simp
abbrev DD (wc : World) (p0 : Option Addr) (lp c0 : Nat) : Array Value := #[.pointer (some ⟨wc.heap.size + 1, 0, none⟩), .slice none 0 0, .nilIface, .slice p0 lp c0, .int .i64 0, .nilFunc, .int .u8 0, .int .u8 0, .int .u8 0, .int .u8 0, .int .u8 0, .int .u8 0, .int .u8 0, .int .u8 0, .int .u8 0, .int .u8 0, .int .u8 0, .int .u8 0, .int .u8 0, .int .u8 0, .int .u8 0, .int .u8 0, .int .u8 0, .int .u8 0, .int .u8 0, .int .u8 0, .int .u16 0, .slice none 0 0]

set_option maxRecDepth 10000 in
set_option maxHeartbeats 2000000 in
theorem law_calls (F : Interp) (a b : Option Addr) (n cap lp cp : Nat) (z ps : List Int) (t : Int) (big : Bool) (e0 e1 : Addr) (w : World) (hF : F.answers w.tape) (hnc : n ≤ cap) (hnil : a = none → cap = 0) (t0 : 0 ≤ t) (t1 : t ≤ 4294967295)
    (hsrc : Src w w.heap.size n a z) (hz : ∀ j, 0 ≤ z.getD j 0 ∧ z.getD j 0 < 256) (hp : ∀ j, j < lp → ∃ x, b = some x ∧ w.cell? (x.add j) = some (.int .u8 (ps.getD j 0))) (hs : Sent w w.heap.size e0 e1) :
    Calls Ybaf.prog 3 #[.slice a n cap, .slice b lp cp, .int .u32 t, .bool big] w fun e w' => e = .returned (.bool true) ∧ Below w.heap.size w w' := by
  have HSRC := hide' hsrc
  have HZ := hide' hz
  have HS := hide' hs
  have HF := hide' hF
  have HP := hide' hp
  clear hsrc hz hs hF hp
  by_cases hn : 16384 < n
  · have hn1 : decide ((16384 : Int) < n) = true := by simp; omega
    go_enter Ybaf.func3, Ybaf.ntmps3
    go_wp2_with fail
    go_ret
    exact ⟨rfl, Below.refl _ _⟩
  replace hn : n ≤ 16384 := by omega
  by_cases hlp : 16384 < lp
  · have hn1 : decide ((16384 : Int) < n) = false := by simp; omega
    have hn2 : decide ((16384 : Int) < lp) = true := by simp; omega
    have Hn := hide' hn
    clear hn
    go_enter Ybaf.func3, Ybaf.ntmps3
    go_wp2_with fail
    go_ret
    exact ⟨rfl, Below.refl _ _⟩
  replace hlp : lp ≤ 16384 := by omega
  have hn1 : decide ((16384 : Int) < n) = false := by simp; omega
  have hn2 : decide ((16384 : Int) < lp) = false := by simp; omega
  obtain ⟨p0, c0, w1, hrun, happ⟩ := app_nil w b lp cp ps hlp HP.out
  have hw3 : wrap64 ((n : Int) + 3) = (n : Int) + 3 := by unfold wrap64; omega
  have hm3 : ((n : Int) + 3) % 4294967296 = (n : Int) + 3 := by omega
  have hz3 : ¬ ((n : Int) + 3 = 0) := by omega
  have Hn := hide' hn
  have Hlp := hide' hlp
  have HApp := hide' happ
  clear hn hlp happ
  go_enter Ybaf.func3, Ybaf.ntmps3
  go_upto_if 28 with (at_builtin; refine wpList_app0 rfl _ _ rfl (.slice none 0 0) (.slice b lp cp) (.slice p0 lp c0) w1 ?_ ?_ hrun ?_; exact rfl; exact rfl)
  go_cut [10] (fun s10 wc => (∃ nn : Nat, s10 = .int .u32 nn ∧ nn ≤ 262145) ∧ wc = w1)
  case first =>
    cases big
    · go_wp2_with fail
      go_meet
      case rel =>
        have := Hn.out
        have h1 := Int.emod_nonneg t (show (n : Int) + 3 ≠ 0 from hz3)
        have h2 := Int.emod_lt_of_pos t (show (0 : Int) < (n : Int) + 3 by omega)
        exact ⟨⟨(t % ((n : Int) + 3)).toNat, by rw [Int.toNat_of_nonneg h1], by omega⟩, rfl⟩
    · go_wp2_with fail
      go_meet
      case rel =>
        exact ⟨⟨(262143 + t % 3).toNat, by rw [Int.toNat_of_nonneg (by omega)], by omega⟩, rfl⟩
  case rest =>
    obtain ⟨⟨nn, rfl, hnn⟩, rfl⟩ := hcut
    clear hrun hw3 hm3 hz3
    have Hnn := hide' hnn
    clear hnn
    go_wp2_with (first
      | (go_at_call 5; refine (bnew a n cap _).mono ?_; rintro e w2 ⟨rfl, rfl⟩)
      | (go_at_call 4; refine (bufnew _ _).mono ?_; rintro e w2 ⟨rfl, rfl⟩))
    change Calls Ybaf.prog 6 _ (four wc a n cap (DD wc p0 lp c0)) _
    obtain ⟨hE, hD, hBW⟩ := start_env w wc a p0 n cap lp c0 z e0 e1 (DD wc p0 lp c0) rfl rfl HApp.out HSRC.out HS.out
    generalize four wc a n cap (DD wc p0 lp c0) = W at hE hD hBW ⊢
    generalize wc.heap.size + 1 + 1 + 1 = D at *
    generalize wc.heap.size + 1 + 1 = gb at *
    generalize wc.heap.size + 1 = B at *
    generalize wc.heap.size = R at *
    by_cases hbig : nn = 262145
    · subst hbig
      refine (readData_big F D W (by rw [show W.tape = w.tape from hBW.tape]; exact HF.out)).mono ?_
      rintro e w2 ⟨rfl, o, tx, hw2⟩
      have hB3 : Below W.heap.size W w2 := by rw [hw2]; exact (((Below.refl _ W).alloc (Nat.le_refl _) _).alloc (by simp) _).drew
      have hNW : w.heap.size ≤ W.heap.size := hBW.size
      have hE2 := hE.kept (W := w2) (fun x h1 _ => hB3.cell h1) (fun x h1 => hB3.frozen h1) (hB3.mono hNW)
      have hD2 : Dat w2 w.heap.size B R gb D p0 lp c0 := ⟨(hB3.cell (p := ⟨D, 3, none⟩) hE.sD).trans hD.cell, hD.le, by
        rcases hD.ok with h | ⟨g, h0, h1, h2, h3, h4, h5, h6, h7, h8⟩
        · exact .inl h
        · exact .inr ⟨g, h0, h1, h2, h3, h4, h5, Nat.lt_of_lt_of_le h6 hB3.size, fun j hj => by rw [hB3.cell (p := ⟨g, j, none⟩) h6]; exact h7 j hj, fun i => by rw [hB3.frozen (p := ⟨g, i, none⟩) h6]; exact h8 i⟩⟩
      have hxb : w2.heap[W.heap.size + 1]? = some (.cells #[.string tx] 62 (0, 0)) := by
        have h := alloc_last (W.alloc o) (.cells #[.string tx] 62)
        rw [show (W.alloc o).heap.size = W.heap.size + 1 by simp] at h
        rw [hw2]; exact h
      obtain ⟨_, _, q0⟩ := hE2.sent.b0
      have l0 := hE2.sent.l0
      have hoth := eql_other ⟨W.heap.size + 1, 0, none⟩ e0 w2 (fun h => by have := congrArg Addr.block h; simp at this; omega) hxb q0
      have g0 := hE2.sent.he0
      have d3 := hD2.cell
      have hnq := run_neq_slice_nil_any (P := Ybaf.prog) w2 22 5 none 0 0 0 0 Ybaf.underlying22
      have hcall := readData_ok w.heap.size B R gb D n cap 0 n lp c0 p0 a z e0 e1 w2 (by omega) hnc Hn.out (by have := Hn.out; omega) HZ.out hE2 hD2
      have HBW := hide' (hBW.trans (hB3.mono hNW))
      have hmod : (n : Int) % 4294967296 = n := by have := Hn.out; omega
      generalize (⟨W.heap.size + 1, 0, none⟩ : Addr) = X at *
      clear hE hD hBW hB3 hNW hE2 hD2 hxb q0 l0 hw2 hn1 hn2
      go_wp2_with fail
      refine hcall.mono ?_
      rintro e w3 ⟨p', c', m, hD3, hE3, hby, hB3, hm1, hm2, hm3⟩
      obtain ⟨rfl, rfl⟩ : m = n ∧ e = .returned (.tuple #[.slice p' n c', .nilIface]) := by
        rcases hm3 with ⟨h1, h2⟩ | ⟨h1, h2, _⟩
        · exact ⟨h1, h2⟩
        · omega
      have hbe := bequal w3 p' a m c' cap 0 z (fun j hj => by
        obtain ⟨g, hg, hc⟩ := hby j hj
        refine ⟨_, hg, ?_⟩
        have : (⟨g, 0, none⟩ : Addr).add j = ⟨g, j, none⟩ := by unfold Addr.add; split <;> simp_all
        rw [this]; exact hc) (fun j hj => by
        obtain ⟨x, hx, hxb, hc⟩ := (HSRC.out.kept (HBW.out.trans hB3)) j hj
        exact ⟨x, hx, by rw [Nat.zero_add]; exact hc⟩)
      have HB3 := hide' hB3
      clear hcall hD3 hE3 hby hB3 hm1 hm2 hm3 hoth hnq g0 d3 hmod
      go_wp2_with (go_at_call 7; refine hbe.mono ?_; rintro e w4 ⟨rfl, rfl⟩)
      go_ret
      exact ⟨rfl, HBW.out.trans HB3.out⟩
    · have hnn2 : nn ≤ 262144 := by have := Hnn.out; omega
      refine (readData_ok w.heap.size B R gb D n cap 0 nn lp c0 p0 a z e0 e1 W (by omega) hnc Hn.out hnn2 HZ.out hE hD).mono ?_
      rintro e w2 ⟨p', c', m, hD2, hE2, hby, hB2, hm1, hm2, hm3⟩
      have HBW := hide' (hBW.trans hB2)
      have d3 := hD2.cell
      have g0 := hE2.sent.he0
      have hb5 : decide ((262144 : Int) < nn) = false := by simp; omega
      by_cases hgt : n < nn
      · have hgt1 : decide ((n : Int) < nn) = true := by simp; omega
        obtain ⟨hmn, rfl⟩ : m = n ∧ e = .returned (.tuple #[.slice p' nn c', .iface 60 (.pointer (some e0))]) := by
          rcases hm3 with ⟨h1, h2⟩ | ⟨h1, h2, h3⟩
          · omega
          · exact ⟨by omega, h3⟩
        have Hgt := hide' hgt
        clear hE hD hBW hD2 hE2 hby hB2 hm1 hm2 hm3 hmn hn1 hn2 hgt hbig
        go_wp2_with fail
        go_ret
        exact ⟨rfl, HBW.out⟩
      · have hgt1 : decide ((n : Int) < nn) = false := by simp; omega
        obtain ⟨rfl, rfl⟩ : m = nn ∧ e = .returned (.tuple #[.slice p' nn c', .nilIface]) := by
          rcases hm3 with ⟨h1, h2⟩ | ⟨h1, h2, h3⟩
          · exact ⟨h1, h2⟩
          · omega
        have hle : m ≤ n := by omega
        have hbe1 := bequal w2 p' a m c' cap 0 z (fun j hj => by
          obtain ⟨g, hg, hc⟩ := hby j hj
          refine ⟨_, hg, ?_⟩
          have : (⟨g, 0, none⟩ : Addr).add j = ⟨g, j, none⟩ := by unfold Addr.add; split <;> simp_all
          rw [this]; exact hc) (fun j hj => by
          obtain ⟨x, hx, hxb, hc⟩ := (HSRC.out.kept HBW.out) j (by omega)
          exact ⟨x, hx, by rw [Nat.zero_add]; exact hc⟩)
        have hcall := readData_ok w.heap.size B R gb D n cap (0 + m) (n - m) m c' p' a z e0 e1 w2 (by omega) hnc Hn.out (by have := Hn.out; omega) HZ.out hE2 hD2
        have hmod : (n : Int) % 4294967296 = n := by have := Hn.out; omega
        have hsub : ((n : Int) - m) % 4294967296 = ((n - m : Nat) : Int) := by have := Hn.out; omega
        have hmc : m ≤ cap := by omega
        clear hE hD hBW hD2 hE2 hby hB2 hm1 hm2 hm3 hn1 hn2 hgt hbig
        cases a with
        | none =>
          obtain rfl : cap = 0 := hnil rfl
          obtain rfl : n = 0 := by omega
          obtain rfl : m = 0 := by omega
          go_wp2_with (go_at_call 7; refine hbe1.mono ?_; rintro e w4 ⟨rfl, rfl⟩)
          refine hcall.mono ?_
          rintro e w5 ⟨p'', c'', m', hD3, hE3, hby, hB3, hm1, hm2, hm3⟩
          obtain rfl : e = .returned (.tuple #[.slice p'' 0 c'', .nilIface]) := by
            rcases hm3 with ⟨h1, h2⟩ | ⟨h1, h2, _⟩
            · exact h2
            · omega
          have hbe := bequal w5 p'' none 0 c'' 0 0 z (fun j hj => by omega) (fun j hj => by omega)
          have HB3 := hide' hB3
          clear hcall hD3 hE3 hby hB3 hm1 hm2 hm3 hbe1 g0 d3 hmod hsub
          go_wp2_with (go_at_call 7; refine hbe.mono ?_; rintro e w6 ⟨rfl, rfl⟩)
          go_ret
          exact ⟨rfl, HBW.out.trans HB3.out⟩
        | some x =>
          have hnm : (n : Int) - m = ((n - m : Nat) : Int) := by omega
          go_wp2_with (go_at_call 7; refine hbe1.mono ?_; rintro e w4 ⟨rfl, rfl⟩)
          refine hcall.mono ?_
          rintro e w5 ⟨p'', c'', m', hD3, hE3, hby, hB3, hm1, hm2, hm3⟩
          obtain ⟨hm', rfl⟩ : m' = n - m ∧ e = .returned (.tuple #[.slice p'' (n - m) c'', .nilIface]) := by
            rcases hm3 with ⟨h1, h2⟩ | ⟨h1, h2, _⟩
            · exact ⟨h1, h2⟩
            · omega
          have hgb : BytesAt w5 p'' (n - m) m z := fun j hj => by
            obtain ⟨g, hg, hc⟩ := hby j (by omega)
            refine ⟨_, hg, ?_⟩
            have : (⟨g, 0, none⟩ : Addr).add j = ⟨g, j, none⟩ := by unfold Addr.add; split <;> simp_all
            rw [this, hc, Nat.zero_add]
          have hsb : BytesAt w5 (some (x.add m)) (n - m) m z := fun j hj => by
            obtain ⟨y, hy, hxb, hc⟩ := (HSRC.out.kept (HBW.out.trans hB3)) (m + j) (by omega)
            cases hy
            exact ⟨_, rfl, by rw [Addr.add_add]; exact hc⟩
          have HB3 := hide' hB3
          clear hD3 hE3 hby hB3 hm1 hm2 hm3 hbe1 g0 d3 hcall
          by_cases hcm : cap = m
          · obtain rfl : n = m := by omega
            have hbe := bequal w5 p'' (some x) 0 c'' 0 0 z (fun j hj => by omega) (fun j hj => by omega)
            clear hgb hsb
            go_wp2_with (go_at_call 7; refine hbe.mono ?_; rintro e w6 ⟨rfl, rfl⟩)
            go_ret
            exact ⟨rfl, HBW.out.trans HB3.out⟩
          · have hbe := bequal w5 p'' (some (x.add m)) (n - m) c'' (cap - m) m z hgb hsb
            clear hgb hsb
            go_wp2_with (go_at_call 7; refine hbe.mono ?_; rintro e w6 ⟨rfl, rfl⟩)
            go_ret
            exact ⟨rfl, HBW.out.trans HB3.out⟩
end Go.Proofs.YbulkcgioFmt.Kit
