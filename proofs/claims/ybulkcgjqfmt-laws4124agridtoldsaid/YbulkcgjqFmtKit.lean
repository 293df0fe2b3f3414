import Derived.Test.YbulkcgjqFmtRows
import Derived.WalkKit
import Derived.ProofKit
import Derived.Below
import Derived.OwnWalk
import Derived.BigRegion
import Derived.BigQuiet
import Derived.Deep.RegionLaw
import Derived.Deep.DeepCutAuto
import Derived.Sort.Grow
import Derived.Test.YbulkcgjqFmtPlain
namespace Go.Proofs.YbulkcgjqFmt
set_option linter.unusedSimpArgs false
set_option linter.unusedVariables false
open Go.ChangeShapes Go.WideShapes Go.ChangeAt Go.RowKit Go.Sort

theorem hide' {p : Prop} (h : p) : Hid p := h

def enc (x : En) : List Value := [.int .i32 x.k0, .int .i32 x.k1, .int .i32 (-1), .int .i32 (-1), .int .i32 x.e, .int .i32 x.f]
def cmpI (a b : Int) : Int := if a < b then -1 else if b < a then 1 else 0
theorem cmpI_self (a : Int) : cmpI a a = 0 := by simp [cmpI]
def cf (x y : En) : Int := if cmpI x.k0 y.k0 ≠ 0 then cmpI x.k0 y.k0 else if cmpI x.k1 y.k1 ≠ 0 then cmpI x.k1 y.k1 else if cmpI x.e y.e ≠ 0 then cmpI x.e y.e else cmpI x.f y.f

theorem isNaN_calls (a : Int) (w : World) : Calls Ybaf.prog 92 #[.int .i32 a] w fun e w' => e = .returned (.bool false) ∧ w' = w := by
  go_enter Ybaf.func92, Ybaf.ntmps92
  go_wp2_with fail
  go_ret
  exact ⟨rfl, rfl⟩

set_option maxHeartbeats 400000 in
theorem cmp_calls (a b : Int) (w : World) : Calls Ybaf.prog 70 #[.int .i32 a, .int .i32 b] w fun e w' => e = .returned (.int .i64 (cmpI a b)) ∧ w' = w := by
  have hn := isNaN_calls
  by_cases h1 : a < b
  · have h1' : decide (a < b) = true := by simpa using h1
    go_enter Ybaf.func70, Ybaf.ntmps70
    go_wp2_with (go_at_call 92; refine (hn _ _).mono ?_; rintro e w' ⟨rfl, rfl⟩)
    go_ret
    exact ⟨by simp [cmpI, h1], rfl⟩
  · have h1' : decide (a < b) = false := by simpa using h1
    by_cases h2 : b < a
    · have h2' : decide (b < a) = true := by simpa using h2
      go_enter Ybaf.func70, Ybaf.ntmps70
      go_wp2_with (go_at_call 92; refine (hn _ _).mono ?_; rintro e w' ⟨rfl, rfl⟩)
      go_ret
      exact ⟨by simp [cmpI, h1, h2], rfl⟩
    · have h2' : decide (b < a) = false := by simpa using h2
      go_enter Ybaf.func70, Ybaf.ntmps70
      go_wp2_with (go_at_call 92; refine (hn _ _).mono ?_; rintro e w' ⟨rfl, rfl⟩)
      go_ret
      refine ⟨?_, rfl⟩
      have e1 : ¬ (a < b) := of_decide_eq_false h1'
      have e2 : ¬ (b < a) := of_decide_eq_false h2'
      simp [cmpI, e1, e2]

/-- The first place where two keys part. -/
def lex4 (ks ls : Nat → Int) : Int := if cmpI (ks 0) (ls 0) ≠ 0 then cmpI (ks 0) (ls 0) else if cmpI (ks 1) (ls 1) ≠ 0 then cmpI (ks 1) (ls 1) else if cmpI (ks 2) (ls 2) ≠ 0 then cmpI (ks 2) (ls 2) else if cmpI (ks 3) (ls 3) ≠ 0 then cmpI (ks 3) (ls 3) else 0
theorem lex4_at (ks ls : Nat → Int) (i : Nat) (hi : i < 4) (he : ∀ j, j < i → cmpI (ks j) (ls j) = 0) (hn : cmpI (ks i) (ls i) ≠ 0) : lex4 ks ls = cmpI (ks i) (ls i) := by
  unfold lex4
  rcases i with _ | _ | _ | _ | i
  · simp [hn]
  · simp [he 0 (by omega), hn]
  · simp [he 0 (by omega), he 1 (by omega), hn]
  · simp [he 0 (by omega), he 1 (by omega), he 2 (by omega), hn]
  · omega
theorem lex4_end (ks ls : Nat → Int) (he : ∀ j, j < 4 → cmpI (ks j) (ls j) = 0) : lex4 ks ls = 0 := by
  unfold lex4; simp [he 0 (by omega), he 1 (by omega), he 2 (by omega), he 3 (by omega)]

set_option maxHeartbeats 400000 in
/-- slices.Compare of two keys. -/
theorem compare_calls (A B oa ob : Nat) (ks ls : Nat → Int) (w : World) (ha : ∀ j, j < 4 → w.cell? ⟨A, oa + j, none⟩ = some (.int .i32 (ks j))) (hb : ∀ j, j < 4 → w.cell? ⟨B, ob + j, none⟩ = some (.int .i32 (ls j))) :
    Calls Ybaf.prog 69 #[.slice (some ⟨A, oa, none⟩) 4 4, .slice (some ⟨B, ob, none⟩) 4 4] w fun e w' => e = .returned (.int .i64 (lex4 ks ls)) ∧ w' = w := by
  have HA := hide' ha
  have HB := hide' hb
  clear ha hb
  go_enter Ybaf.func69, Ybaf.ntmps69
  go_wp2_with fail
  go_loopg [11] 4 (fun g s11 wr => ∃ i : Nat, s11 = .int .i64 i ∧ i ≤ 4 ∧ g = 4 - i ∧ Hid (∀ j, j < i → cmpI (ks j) (ls j) = 0) ∧ Hid (wr = w))
  case atStart => exact ⟨0, rfl, by omega, by omega, fun j hj => by omega, rfl⟩
  case round =>
    obtain ⟨i, rfl, hi, hg, HE, HW⟩ := hrel
    obtain rfl := HW.out
    have HG := hide' hg
    clear hg HW
    by_cases hlt : i < 4
    · have hlt2 : decide ((i : Int) < 4) = true := by simp; omega
      have hlt3 : decide ((4 : Int) ≤ i) = false := by simp; omega
      have c1 := HA.out i hlt
      have c2 := HB.out i hlt
      have hc := cmp_calls (ks i) (ls i)
      generalize hr : cmpI (ks i) (ls i) = r at *
      have HR := hide' hr
      clear hr
      by_cases h0 : r = 0
      · have h0' : (r != 0) = false := by simp [h0]
        go_wp2_with (go_at_call 70; refine (hc _).mono ?_; rintro e w' ⟨rfl, rfl⟩)
        go_roundg (4 - (i + 1))
        case measure => have := HG.out; omega
        case rel => exact ⟨i + 1, by push_cast; rfl, by omega, rfl, fun j hj => by
            rcases Nat.lt_or_ge j i with h | h
            · exact HE.out j h
            · obtain rfl : j = i := by omega
              rw [HR.out]; exact h0, rfl⟩
      · have h0' : (r != 0) = true := by simp [h0]
        go_wp2_with (go_at_call 70; refine (hc _).mono ?_; rintro e w' ⟨rfl, rfl⟩)
        go_ret
        exact ⟨by rw [lex4_at ks ls i hlt HE.out (by rw [HR.out]; exact h0), HR.out]; rfl, rfl⟩
    · obtain rfl : i = 4 := by omega
      go_wp2_with fail
      go_ret
      exact ⟨by rw [lex4_end ks ls HE.out]; rfl, rfl⟩

/-- Two blocks laid one behind the other. -/
theorem two_new (W : World) (ca cb : Array Value) (t : TypeId) (W1 W2 : World) (e1 : W1 = W.alloc (.cells ca t)) (e2 : W2 = W1.alloc (.cells cb t)) :
    W2 = grow W #[.cells ca t, .cells cb t] ∧ (∀ i, W2.cell? ⟨W.heap.size, i, none⟩ = ca[i]?) ∧ (∀ i, W2.cell? ⟨W.heap.size + 1, i, none⟩ = cb[i]?) := by
  have s1 : W1.heap.size = W.heap.size + 1 := by rw [e1]; simp
  refine ⟨by rw [e2, e1, alloc_eq_grow, alloc_eq_grow, grow_grow]; rfl, fun i => ?_, fun i => ?_⟩
  · have b2 : W2.heap[W.heap.size]? = W1.heap[W.heap.size]? := by rw [e2]; exact Below.heap_alloc _ _ _ (by omega)
    rw [World.cell?_of_block (w := W1) (a := ⟨W.heap.size, i, none⟩) b2, e1]
    simp only [World.cell?]; rw [heap_alloc_new]; rfl
  · rw [e2, ← s1]
    simp only [World.cell?]; rw [heap_alloc_new]; rfl

def keyF (x : En) (j : Nat) : Int := if j = 0 then x.k0 else if j = 1 then x.k1 else -1

set_option maxRecDepth 10000 in
set_option maxHeartbeats 1000000 in
/-- compareEntries, in whatever world: two blocks are laid. -/
theorem entries_calls (x y : En) (W : World) : Calls Ybaf.prog 51 #[.agg (enc x).toArray, .agg (enc y).toArray] W fun e w' => e = .returned (.int .i64 (cf x y)) ∧ ∃ q os', w' = grow (W.drewN q) os' := by
  have hl : lex4 (keyF x) (keyF y) = (if cmpI x.k0 y.k0 ≠ 0 then cmpI x.k0 y.k0 else if cmpI x.k1 y.k1 ≠ 0 then cmpI x.k1 y.k1 else 0) := by
    simp [lex4, keyF, cmpI_self]
  have h3 : decide ((x.f : Int) < 0) = false := by simp
  have h4 : decide ((y.f : Int) < 0) = false := by simp
  unfold enc
  go_enter Ybaf.func51, Ybaf.ntmps51
  go_wp2_with fail
  have hw2 := two_new W (enc x).toArray (enc y).toArray 117 _ _ rfl rfl
  unfold enc at hw2
  obtain ⟨hgr, hca, hcb⟩ := hw2
  generalize ((W.alloc (Obj.cells _ 117)).alloc (Obj.cells _ 117)) = W2 at *
  have a4 : W2.cell? ⟨W.heap.size, 4, none⟩ = some (.int .i32 x.e) := hca 4
  have a5 : W2.cell? ⟨W.heap.size, 5, none⟩ = some (.int .i32 x.f) := hca 5
  have b4 : W2.cell? ⟨W.heap.size + 1, 4, none⟩ = some (.int .i32 y.e) := hcb 4
  have b5 : W2.cell? ⟨W.heap.size + 1, 5, none⟩ = some (.int .i32 y.f) := hcb 5
  have hcmp := hide' (compare_calls W.heap.size (W.heap.size + 1) 0 0 (keyF x) (keyF y) W2.drew (fun j hj => by
      rcases j with _ | _ | _ | _ | j
      · exact hca 0
      · exact hca 1
      · exact hca 2
      · exact hca 3
      · omega) (fun j hj => by
      rcases j with _ | _ | _ | _ | j
      · exact hcb 0
      · exact hcb 1
      · exact hcb 2
      · exact hcb 3
      · omega))
  have HGR := hide' hgr
  have HL := hide' hl
  have HCF := hide' (show cf x y = if lex4 (keyF x) (keyF y) ≠ 0 then lex4 (keyF x) (keyF y) else if cmpI x.e y.e ≠ 0 then cmpI x.e y.e else cmpI x.f y.f by
    rw [hl]; unfold cf
    by_cases h1 : cmpI x.k0 y.k0 = 0
    · by_cases h2 : cmpI x.k1 y.k1 = 0
      · simp [h1, h2]
      · simp [h1, h2]
    · simp [h1])
  clear hgr hca hcb hl
  generalize lex4 (keyF x) (keyF y) = r at *
  go_region_with (go_at_call 69; refine hcmp.out.mono ?_; rintro e w' ⟨rfl, rfl⟩)
  all_goals (
    by_cases h0 : r = 0
    · have h0' : (r != 0) = false := by simp [h0]
      go_wp2_with fail
      go_quiet (fail)
      by_cases h1 : cmpI x.e y.e = 0
      · have h1' : (cmpI x.e y.e != 0) = false := by simp [h1]
        go_wp2_with (go_at_call 70; refine (cmp_calls _ _ _).mono ?_; rintro e w' ⟨rfl, rfl⟩)
        go_ret
        refine ⟨by rw [HCF.out]; simp [h0, h1], ?_⟩
        rw [HGR.out]
        exact ⟨_, _, rfl⟩
      · have h1' : (cmpI x.e y.e != 0) = true := by simp [h1]
        go_wp2_with (go_at_call 70; refine (cmp_calls _ _ _).mono ?_; rintro e w' ⟨rfl, rfl⟩)
        go_ret
        refine ⟨by rw [HCF.out]; simp [h0, h1], ?_⟩
        rw [HGR.out]
        exact ⟨_, _, rfl⟩
    · have h0' : (r != 0) = true := by simp [h0]
      go_wp2_with fail
      go_ret
      refine ⟨by rw [HCF.out]; simp [h0], ?_⟩
      rw [HGR.out]
      exact ⟨1, _, rfl⟩)
end Go.Proofs.YbulkcgjqFmt
