import Derived.Test.YbulkcgioFmtKit5
import Derived.Deep.LoopGhost
import Derived.LaidEql
namespace Go.Proofs.YbulkcgioFmt.Kit
set_option linter.unusedSimpArgs false
set_option linter.unusedVariables false
open Go.ChangeShapes Go.WideShapes Go.ChangeAt Go.RowKit

/-- m octets have come. -/
structure Mid (w w' : World) (N B R gb gd n cap0 : Nat) (a : Option Addr) (z : List Int) (pos m : Nat) : Prop where
  st : St w' N B R gb n cap0 a z (pos + m)
  dest : ∀ j, j < m → w'.cell? ⟨gd, j, none⟩ = some (.int .u8 (z.getD (pos + j) 0))
  fr : Fr w w' N B R gb gd 0 m

theorem Fr.wider {w w' : World} {N B R gb gd od k k' od' : Nat} (h : Fr w w' N B R gb gd od k) (h1 : od' ≤ od) (h2 : od + k ≤ od' + k') : Fr w w' N B R gb gd od' k' :=
  ⟨fun x a1 a2 a3 a4 => h.other x a1 a2 a3 (by omega), h.frozen, h.size, h.below⟩

theorem isComp60 : (Ybaf.prog.info? 60).map (·.comparable) = some true := by kernel_rfl
theorem err60 : ∃ te j, Ybaf.prog.underlying 60 = some (.pointer te) ∧ Ybaf.prog.info? te = some j ∧ j.size ≠ 0 := ⟨62, _, Ybaf.underlying60, rfl, by decide⟩
/-- 'x == y', one error of errors.New's make. -/
@[go_sem] theorem eql_same (x : Addr) (w : World) : (binOp .eql 39 (.iface 60 (.pointer (some x))) (.iface 60 (.pointer (some x)))).run Ybaf.prog w = .ok (.bool true) w := by
  obtain ⟨i, hi, hcmp⟩ := Option.map_eq_some_iff.1 isComp60
  obtain ⟨te, j, hp, hj, _⟩ := err60
  exact run_eql_iface_ptr_same (P := Ybaf.prog) w x Ybaf.underlying39 hp hi hcmp hj
@[go_sem] theorem eql_nil_left (v : Value) (w : World) : (binOp .eql 39 .nilIface (.iface 60 v)).run Ybaf.prog w = .ok (.bool false) w := run_eql_iface_nil_left (P := Ybaf.prog) w 60 v Ybaf.underlying39
theorem eql_other (x a : Addr) (W : World) {cx ca : Array Value} {tx ta : TypeId} (hne : x ≠ a) (hx : W.heap[x.block]? = some (.cells cx tx (0, 0))) (ha : W.heap[a.block]? = some (.cells ca ta (0, 0))) :
    (binOp .eql 39 (.iface 60 (.pointer (some x))) (.iface 60 (.pointer (some a)))).run Ybaf.prog W = .ok (.bool false) W := by
  obtain ⟨i, hi, hcmp⟩ := Option.map_eq_some_iff.1 isComp60
  obtain ⟨te, j, hp, hj, hjs⟩ := err60
  exact run_eql_iface_ptr_other (P := Ybaf.prog) W Ybaf.underlying39 hp hi hcmp hj hjs hne hx ha

@[go_sem] theorem nilA25 (x : Addr) (w : World) : (nilAhead 199 25 (.pointer (some x)) "Read").run Ybaf.prog w = .ok (some false) w := by kernel_rfl
theorem St.drew {w : World} {N B R gb n cap0 : Nat} {a : Option Addr} {z : List Int} {pos : Nat} (h : St w N B R gb n cap0 a z pos) : St w.drew N B R gb n cap0 a z pos := by
  obtain ⟨rr, ww, ii, lb, ls, pr, hraw, hbuf, h1⟩ := h
  exact ⟨rr, ww, ii, lb, ls, pr, ⟨hraw.b0, hraw.b1, hraw.b2, hraw.b3, hraw.b4, hraw.b5, hraw.b6, hraw.r0, hraw.r1, hraw.r2, hraw.fB, hraw.fR, hraw.fG, hraw.room, hraw.src⟩, hbuf, h1⟩
theorem Fr.drew {w w' : World} {N B R gb gd od k : Nat} (h : Fr w w' N B R gb gd od k) : Fr w w'.drew N B R gb gd od k := ⟨h.other, h.frozen, h.size, h.below.drew⟩

set_option maxHeartbeats 1000000 in
/-- io.ReadAtLeast over the stream, as many octets as dest holds. -/
theorem readAtLeast_all (N B R gb gd l c n cap0 pos : Nat) (a : Option Addr) (z : List Int) (e0 e1 : Addr) (w : World) (hpos : pos ≤ n) (hnc : n ≤ cap0) (hn : n ≤ 16384) (hl2 : l ≤ 1000000) (hlc : l ≤ c)
    (ha : Apart N B R gb gd) (hz : ∀ j, 0 ≤ z.getD j 0 ∧ z.getD j 0 < 256) (hst : St w N B R gb n cap0 a z pos) (hd : ∀ j, j < l → (w.cell? ⟨gd, j, none⟩).isSome = true) (fD : ∀ i, w.frozen? ⟨gd, i, none⟩ = false)
    (h1B : 1 < N) (he0 : w.cell? ⟨0, 0, none⟩ = some (.iface 60 (.pointer (some e0)))) (he1 : w.cell? ⟨1, 0, none⟩ = some (.iface 60 (.pointer (some e1)))) :
    Calls Ybaf.prog 15 #[.iface 25 (.pointer (some ⟨B, 0, none⟩)), .slice (some ⟨gd, 0, none⟩) l c, .int .i64 l] w fun e w' => 
      ∃ m : Nat, Mid w w' N B R gb gd n cap0 a z pos m ∧ m ≤ l ∧ pos + m ≤ n ∧ ((m = l ∧ e = .returned (.tuple #[.int .i64 m, .nilIface])) ∨ (m < l ∧ pos + m = n ∧ m = 0 ∧ e = .returned (.tuple #[.int .i64 m, .iface 60 (.pointer (some e1))])) ∨ (m < l ∧ pos + m = n ∧ 0 < m ∧ e = .returned (.tuple #[.int .i64 m, .iface 60 (.pointer (some e0))]))) := by
  have HST : Hid (St w N B R gb n cap0 a z pos) := hst
  have HD := hide' hd
  have HFD := hide' fD
  have HA := hide' ha
  have HZ := hide' hz
  have HE := hide' (And.intro he0 he1)
  clear hst hd fD ha hz he0 he1
  go_enter Ybaf.func15, Ybaf.ntmps15
  go_wp2_with fail
  go_loopg [6, 7, 8] (2 * l + 1) (fun g s6 s7 s8 wr => ∃ m : Nat, s6 = .int .i64 m ∧ m ≤ l ∧ pos + m ≤ n ∧ Hid (Mid w wr N B R gb gd n cap0 a z pos m) ∧ ((s7 = .nilIface ∧ g = 2 * (l - m) + 1) ∨ (s7 = .iface 60 (.pointer (some e1)) ∧ pos + m = n ∧ m < l ∧ g = 2 * (l - m))))
  case atStart =>
    exact ⟨0, rfl, by omega, by omega, ⟨HST.out, fun j hj => by omega, Fr.refl w N B R gb gd 0 0 0⟩, .inl ⟨rfl, by omega⟩⟩
  case round =>
    obtain ⟨m, rfl, hml, hmn, HM, hcase⟩ := hrel
    rcases hcase with ⟨rfl, hg⟩ | ⟨rfl, hpn, hmlt, hg⟩
    · by_cases hml2 : m < l
      · have hml3 : decide ((m : Int) < l) = true := by simp; omega
        go_wp2_with fail
        have hcm : ¬ c = m := by omega
        have hdm : ∀ j, j < l - m → (wr.drew.cell? ⟨gd, m + j, none⟩).isSome = true := fun j hj => by
          show (wr.cell? _).isSome = true
          rw [HM.out.fr.other _ (Ne.symm HA.out.BD) (Ne.symm HA.out.RD) (Ne.symm HA.out.GD) (.inr (.inr (by simp)))]
          exact HD.out _ (by omega)
        by_cases hend : pos + m < n
        · have hcall : Calls Ybaf.prog 32 #[.pointer (some ⟨B, 0, none⟩), .slice (some ⟨gd, m, none⟩) (l - m) (c - m)] wr.drew fun e w' => ∃ k : Nat, e = .returned (.tuple #[.int .i64 k, .nilIface]) ∧ 0 < k ∧ m + k ≤ l ∧ pos + (m + k) ≤ n ∧ Hid (Mid w w' N B R gb gd n cap0 a z pos (m + k)) := by
            refine (bufread_some N B R gb gd m (l - m) (c - m) n cap0 (pos + m) a z wr.drew hend hnc hn (by omega) (by omega) HA.out HZ.out HM.out.st.drew hdm (fun i => (HM.out.fr.frozen _).trans (HFD.out i))).mono ?_
            rintro e w' ⟨k, rfl, h1, h2, h3, hs, hdest, hfr⟩
            refine ⟨k, rfl, h1, by omega, by omega, by rw [← Nat.add_assoc]; exact hs, fun j hj => ?_, (HM.out.fr.drew.wider (by omega) (by omega)).trans (hfr.wider (by omega) (by omega))⟩
            by_cases hjm : j < m
            · rw [hfr.other _ (Ne.symm HA.out.BD) (Ne.symm HA.out.RD) (Ne.symm HA.out.GD) (.inr (.inl hjm))]
              exact HM.out.dest j hjm
            · have := hdest (j - m) (by omega)
              rw [show m + (j - m) = j by omega, show pos + m + (j - m) = pos + j by omega] at this
              exact this
          clear hdm
          go_region_with (go_at_call 32; refine hcall.mono ?_; rintro e w2 ⟨k, rfl, hk0, hkl, hkn, HM2⟩)
          all_goals (
            clear hcall
            go_wp2_with fail
            go_roundg (2 * (l - (m + k)) + 1)
            case measure => omega
            case rel => exact ⟨m + k, by push_cast; rfl, hkl, hkn, HM2, .inl ⟨rfl, rfl⟩⟩)
        · have hcall : Calls Ybaf.prog 32 #[.pointer (some ⟨B, 0, none⟩), .slice (some ⟨gd, m, none⟩) (l - m) (c - m)] wr.drew fun e w' => e = .returned (.tuple #[.int .i64 0, .iface 60 (.pointer (some e1))]) ∧ Hid (Mid w w' N B R gb gd n cap0 a z pos m) := by
            refine (bufread_end N B R gb gd m (l - m) (c - m) n cap0 (pos + m) a z e1 wr.drew (by omega) hn (by omega) (by omega) HA.out HM.out.st.drew h1B ((HM.out.fr.below.cell h1B).trans HE.out.2)).mono ?_
            rintro e w' ⟨rfl, hs, hfr⟩
            exact ⟨rfl, hs, fun j hj => by rw [hfr.other _ (Ne.symm HA.out.BD) (Ne.symm HA.out.RD) (Ne.symm HA.out.GD) (.inr (.inl hj))]; exact HM.out.dest j hj, HM.out.fr.drew.trans (hfr.wider (by omega) (by omega))⟩
          clear hdm
          go_region_with (go_at_call 32; refine hcall.mono ?_; rintro e w2 ⟨rfl, HM2⟩)
          all_goals (
            clear hcall
            go_wp2_with fail
            go_roundg (2 * (l - m))
            case measure => omega
            case rel => exact ⟨m, rfl, hml, hmn, HM2, .inr ⟨rfl, by omega, hml2, rfl⟩⟩)
      · have hml3 : decide ((m : Int) < l) = false := by simp; omega
        have hml4 : decide ((l : Int) ≤ m) = true := by simp; omega
        go_wp2_with fail
        go_ret2
        exact ⟨m, HM.out, hml, hmn, .inl ⟨by omega, rfl⟩⟩
    · have hml3 : decide ((m : Int) < l) = true := by simp; omega
      have hml4 : decide ((l : Int) ≤ m) = false := by simp; omega
      have g0 : wr.cell? ⟨0, 0, none⟩ = some (.iface 60 (.pointer (some e0))) := (HM.out.fr.below.cell (p := ⟨0, 0, none⟩) (by show 0 < N; omega)).trans HE.out.1
      have g1 : wr.cell? ⟨1, 0, none⟩ = some (.iface 60 (.pointer (some e1))) := (HM.out.fr.below.cell (p := ⟨1, 0, none⟩) h1B).trans HE.out.2
      by_cases hm0 : m = 0
      · subst hm0
        go_wp2_with fail
        go_ret2
        exact ⟨0, HM.out, hml, hmn, .inr (.inl ⟨hmlt, hpn, rfl, rfl⟩)⟩
      · have hm0' : decide ((0 : Int) < m) = true := by simp; omega
        go_wp2_with fail
        go_ret2
        exact ⟨m, HM.out, hml, hmn, .inr (.inr ⟨hmlt, hpn, by omega, rfl⟩)⟩
end Go.Proofs.YbulkcgioFmt.Kit
