import Derived.Test.YbulkcggkLookKit
namespace Go.Proofs.Ybulkcggk.LookB
open Go.ChangeShapes Go.WideShapes Go.ChangeAt Go.RowKit Go.Sort
set_option linter.unusedVariables false

set_option maxHeartbeats 400000 in
theorem search_calls (L g n bl bp : Nat) (P : Nat → Int) (t : Int) (w : World) (hL : Lay w L g n P) (hn : n ≤ 1024) (hmono : ∀ a b, a ≤ b → b < n → P a ≤ P b)
    (cl : w.cell? ⟨bl, 0, none⟩ = some (.pointer (some ⟨L, 0, none⟩))) (cp : w.cell? ⟨bp, 0, none⟩ = some (.int .u32 t)) :
    Calls Yba.prog 14 #[.int .i64 n, .func (.func 15) #[] #[.pointer (some ⟨bl, 0, none⟩), .pointer (some ⟨bp, 0, none⟩)]] w fun e w' =>
      ∃ r : Nat, r ≤ n ∧ (∀ k, k < r → P k < t) ∧ (∀ k, r ≤ k → k < n → t ≤ P k) ∧ e = .returned (.int .i64 r) ∧ Below w.heap.size w w' := by
  have HL : Hid (Lay w L g n P) := hL
  have HM : Hid (∀ a b, a ≤ b → b < n → P a ≤ P b) := hmono
  have HCL : Hid (w.cell? ⟨bl, 0, none⟩ = some (.pointer (some ⟨L, 0, none⟩))) := cl
  have HCP : Hid (w.cell? ⟨bp, 0, none⟩ = some (.int .u32 t)) := cp
  clear hL hmono cl cp
  go_enter Yba.func14, Yba.ntmps14
  go_wp2_with fail
  go_loopw [5, 6] (fun a b wr => ∃ i j : Nat, i ≤ j ∧ j ≤ n ∧ a = .int .i64 i ∧ b = .int .i64 j ∧ (∀ k, k < i → P k < t) ∧ (∀ k, j ≤ k → k < n → t ≤ P k) ∧ Below w.heap.size w wr) (fun a b _ => ((intOf b).toNat - (intOf a).toNat))
  case atStart => exact ⟨0, n, by omega, by omega, rfl, rfl, fun k h => by omega, fun k h h' => by omega, Below.refl _ _⟩
  case round =>
    obtain ⟨i, j, hij, hjn, rfl, rfl, hlo, hhi, hb⟩ := hrel
    have HLO : Hid (∀ k, k < i → P k < t) := hlo
    have HHI : Hid (∀ k, j ≤ k → k < n → t ≤ P k) := hhi
    clear hlo hhi
    by_cases hlt : i < j
    · obtain ⟨h, hh, hih, hhj⟩ : ∃ h : Nat, ((i : Int) + (j : Int)) / 2 = (h : Int) ∧ i ≤ h ∧ h < j := ⟨(i + j) / 2, by omega, by omega, by omega⟩
      by_cases hp : t ≤ P h
      · have hd : decide (t ≤ P h) = true := by simpa using hp
        have HHI2 : Hid (∀ k, h ≤ k → k < n → t ≤ P k) := fun k h1 h2 => Int.le_trans hp (HM.out h k h1 h2)
        clear hp
        go_wp2_with fail
        refine (clos_calls L g n bl bp h P t wr (HL.out.kept hb) hn (by omega) (cell_kept hb HCL.out) (cell_kept hb HCP.out)).mono ?_
        rintro e w' ⟨rfl, hb2⟩
        rw [hd]
        go_wp2_with fail
        go_roundw
        case rel => exact ⟨i, h, by omega, by omega, rfl, rfl, HLO.out, HHI2.out, hb.trans (hb2.mono hb.size)⟩
        case measure => simp [intOf]; omega
      · have hd : decide (t ≤ P h) = false := by simpa using hp
        have HLO2 : Hid (∀ k, k < h + 1 → P k < t) := fun k h1 => by
          have := HM.out k h (by omega) (by omega)
          omega
        clear hp
        go_wp2_with fail
        refine (clos_calls L g n bl bp h P t wr (HL.out.kept hb) hn (by omega) (cell_kept hb HCL.out) (cell_kept hb HCP.out)).mono ?_
        rintro e w' ⟨rfl, hb2⟩
        rw [hd]
        go_wp2_with fail
        go_roundw
        case rel => exact ⟨h + 1, j, by omega, by omega, by go_num, rfl, HLO2.out, HHI.out, hb.trans (hb2.mono hb.size)⟩
        case measure => simp [intOf]; omega
    · go_wp2_with fail
      go_ret
      exact ⟨i, by omega, HLO.out, fun k h1 h2 => HHI.out k (by omega) h2, rfl, hb⟩

set_option maxHeartbeats 1000000 in
/-- rowOf: the first row whose position is at least t, and whether it is t. -/
theorem rowOf_calls (L g n : Nat) (P : Nat → Int) (t : Int) (w : World) (hL : Lay w L g n P) (hn : n ≤ 1024) (hmono : ∀ a b, a ≤ b → b < n → P a ≤ P b) (t0 : 0 ≤ t) (t1 : t < 4294967296) :
    Calls Yba.prog 13 #[.pointer (some ⟨L, 0, none⟩), .int .u32 t] w fun e w' =>
      ∃ r : Nat, r ≤ n ∧ (∀ k, k < r → P k < t) ∧ (∀ k, r ≤ k → k < n → t ≤ P k) ∧ e = .returned (.tuple #[.int .i64 r, .bool (decide (r < n) && (P r == t))]) ∧ Below w.heap.size w w' := by
  have hcnt := hL.cnt
  have hLb : L < w.heap.size := World.block_lt_of_cell? w _ hcnt
  go_enter Yba.func13, Yba.ntmps13
  go_wp2_with fail
  refine (search_calls L g n w.heap.size (w.heap.size + 1) P t _ (hL.kept (((Below.refl _ _).alloc (Nat.le_refl _) _).alloc (by simp) _)) hn hmono (by simp [go_sem]) (by simp [go_sem])).mono ?_
  rintro e w1 ⟨r, hr, hlo, hhi, rfl, hb1⟩
  have hbel : Below w.heap.size w w1 := (((Below.refl _ _).alloc (Nat.le_refl _) _).alloc (by simp) _).trans (hb1.mono (by simp; omega))
  have hL1 := hL.kept hbel
  have cl : w1.cell? ⟨w.heap.size, 0, none⟩ = some (.pointer (some ⟨L, 0, none⟩)) := cell_kept hb1 (by simp [go_sem])
  have cp : w1.cell? ⟨w.heap.size + 1, 0, none⟩ = some (.int .u32 t) := cell_kept hb1 (by simp [go_sem])
  have hcl : ∀ d os, (grow (redrawn w1 d) os).cell? ⟨w.heap.size, 0, none⟩ = some (.pointer (some ⟨L, 0, none⟩)) := fun d os => cell_regrown cl d os
  have hcp : ∀ d os, (grow (redrawn w1 d) os).cell? ⟨w.heap.size + 1, 0, none⟩ = some (.int .u32 t) := fun d os => cell_regrown cp d os
  have hck : ∀ d os, (grow (redrawn w1 d) os).cell? ⟨L, 6, none⟩ = some (.slice (some ⟨g, 0, none⟩) (16 * n) (16 * n)) := fun d os => cell_regrown hL1.look d os
  have hcn : ∀ d os, (grow (redrawn w1 d) os).cell? ⟨L, 4, none⟩ = some (.int .i64 n) := fun d os => cell_regrown hL1.cnt d os
  have HLO : Hid (∀ k, k < r → P k < t) := hlo
  have HHI : Hid (∀ k, r ≤ k → k < n → t ≤ P k) := hhi
  clear hlo hhi hb1 hcnt hmono
  by_cases hrn : r < n
  · have hcall : ∀ d os len cap, 4 ≤ len → Calls Yba.prog 16 #[.agg #[], .slice (some ⟨g, 16 * r, none⟩) len cap] (grow (redrawn w1 d) os) fun e w'' => e = .returned (.int .u32 (P r)) ∧ ∃ p : Regrown, w'' = grow (redrawn w1 p.d) p.os :=
      fun d os len cap h => Calls.regrown_of (get_lay L g n P _ (hL1.kept (below_regrown w1 d os)) r len cap hrn h)
    have hw1 : IntKind.i64.wrap (16 * (r : Int)) = 16 * (r : Int) := by rw [IntKind.wrap_i64]; omega
    have htn : (16 * (r : Int)).toNat = 16 * r := by omega
    have h16 : 16 * (r : Int) ≤ 16 * (n : Int) := by omega
    have h160 : 0 ≤ 16 * (r : Int) := by omega
    have hne : ¬ 16 * n = 16 * r := by omega
    have hd : (r : Int) < (n : Int) := by omega
    have HDD : Hid (decide (r < n) = true) := by unfold Hid; simpa using hrn
    have hlen : 4 ≤ 16 * n - 16 * r := by omega
    go_wp2_with fail
    refine wp_region_quiet_below (by kernel_rfl) (by kernel_rfl) ?_
    repeat (quiet_step (exact hcall _ _ _ _ hlen))
    refine wpQuiet_nil ?_
    intro _ hw'
    obtain ⟨⟨dq, osq⟩, hw''⟩ := hw'
    subst hw''
    go_wp2_with fail
    go_ret2
    exact ⟨r, hr, HLO.out, HHI.out, by rw [HDD.out]; rfl, hbel.trans ((below_regrown w1 dq osq).mono hbel.size)⟩
  · have HDD : Hid (decide (r < n) = false) := by unfold Hid; simpa using hrn
    have hd : ¬ (r : Int) < (n : Int) := by omega
    go_wp2_with fail
    refine wp_region_quiet_below (by kernel_rfl) (by kernel_rfl) ?_
    repeat (go_big_quiet_step (fail))
    refine wpQuiet_nil ?_
    intro _ hw'
    obtain ⟨⟨dq, osq⟩, hw''⟩ := hw'
    subst hw''
    go_wp2_with fail
    go_ret2
    exact ⟨r, hr, HLO.out, HHI.out, by rw [HDD.out]; rfl, hbel.trans ((below_regrown w1 dq osq).mono hbel.size)⟩

set_option maxHeartbeats 1000000 in
/-- (*Bitmap).findAt in a Bitmap with a stored layout. -/
theorem findAt_look (bb L g n : Nat) (P : Nat → Int) (cs : Array Value) (i t : Int) (w : World) (hL : Lay w L g n P) (hn : n ≤ 1024) (hmono : ∀ a b, a ≤ b → b < n → P a ≤ P b)
    (c41 : w.cell? ⟨bb, 41, none⟩ = some (.pointer (some ⟨L, 0, none⟩))) (ht : i % 4294967296 = t) :
    Calls Yba.prog 11 #[.pointer (some ⟨bb, 0, none⟩), .agg cs, .int .i64 i] w fun e w' =>
      ∃ r : Nat, r ≤ n ∧ (∀ k, k < r → P k < t) ∧ (∀ k, r ≤ k → k < n → t ≤ P k) ∧ e = .returned (.tuple #[.int .i64 r, .bool (decide (r < n) && (P r == t))]) ∧ Below w.heap.size w w' := by
  have hb : bb < w.heap.size := World.block_lt_of_cell? w _ c41
  have t0 : 0 ≤ t := by omega
  have t1 : t < 4294967296 := by omega
  have HM : Hid (∀ a b, a ≤ b → b < n → P a ≤ P b) := hmono
  clear hmono
  go_enter Yba.func11, Yba.ntmps11
  go_wp2_with fail
  refine (rowOf_calls L g n P t _ (hL.kept ((Below.refl _ _).alloc (Nat.le_refl _) _)) hn HM.out t0 t1).mono ?_
  rintro e w1 ⟨r, hr, hlo, hhi, rfl, hb1⟩
  have HLO : Hid (∀ k, k < r → P k < t) := hlo
  have HHI : Hid (∀ k, r ≤ k → k < n → t ≤ P k) := hhi
  clear hlo hhi
  generalize hbv : (decide (r < n) && (P r == t)) = bv at *
  have HBV : Hid ((decide (r < n) && (P r == t)) = bv) := hbv
  clear hbv
  go_wp2_with fail
  go_ret2
  exact ⟨r, hr, HLO.out, HHI.out, by rw [HBV.out]; rfl, ((Below.refl _ _).alloc (Nat.le_refl _) _).trans (hb1.mono (by simp))⟩
end Go.Proofs.Ybulkcggk.LookB
