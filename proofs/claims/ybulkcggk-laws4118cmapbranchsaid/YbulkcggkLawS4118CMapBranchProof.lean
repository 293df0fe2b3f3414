/-
  'Rows.LawS4118CMapBranchSaid': in a Bitmap with no stored layout findAt answers the first place of the key, or (0, false).
-/
import Derived.Test.YbulkcggkRows
import Derived.Test.YbulkcggkMapKit
import Derived.WalkKit
import Derived.ProofKit
import Derived.OpenShut
import Derived.ShutString
import Derived.ChangeOld
import Derived.Below
namespace Go.Proofs.Ybulkcggk.lawS4118CMapBranch
open Go.ChangeShapes Go.WideShapes Go.ChangeAt Go.RowKit Go.Maps
open Go.ChangeMaps (open_string shut_string)
open Go.Proofs.Ybulkcggk.MapB
set_option linter.unusedVariables false

theorem own : ownKnob Yba.prog.godebug = none := by kernel_rfl
theorem laidOut' : laidOutB Yba.prog = true := by kernel_rfl

/-- What the walk is told of a slice of integers that came in (the shell's own). -/
def IsRow (k : IntKind) (w : World) (a : Option Addr) (len cap : Nat) (zs : List Int) : Prop :=
  (a = none ∧ len = 0 ∧ cap = 0 ∧ zs = []) ∨
  ∃ x, a = some x ∧ len ≤ cap ∧ cap ≤ maxLen ∧ zs.length = cap ∧ (∀ i, i < zs.length → w.cell? (x.add i) = some (.int k (zs.getD i 0))) ∧ ∀ n ∈ zs, (Lit.int k n).wf = true

def Ones (c : Array Value) : Prop := c.all (·.oneCell') = true
theorem ones_id (k : Int) : Ones (idArr k) := idArr_one k
theorem wp_st40o (dst : Option Tmp) (ty : TypeId) (pos : String) (aft : Array Edge) (gd : Option (Nat × Bool)) (x y : Operand) (a : Act) (w : World) (c : Array Value) (K : Act → World → Prop) (Q : Exit → Act → World → Prop)
    (hx : a.eval x = .pointer (some ⟨w.heap.size, 0, none⟩)) (hc : c.size = 33) (hy : a.eval y = .agg (a.eval y).cells) (hs : (a.eval y).cells.size = 33) (h1 : Ones (a.eval y).cells) :
    Oper.wp Yba.prog ⟨dst, .store 40 x y, ty, pos, aft, gd⟩ a (w.alloc (.cells c 40)) K Q = K (a.put dst undef) (w.alloc (.cells (a.eval y).cells 40)) :=
  wp_st40 dst ty pos aft gd x y a w c K Q hx hc hy hs h1
attribute [local go_sem ↓ 10000] wp_st40o wp_ld40
attribute [local go_sem] idArr_size ones_id

/-- The map as read holds just the keys of 'ks', each with the first place at which it stands. -/
def Good (D : DataW Unit) (ks : List Int) : Prop :=
  ∀ q : Int, 0 ≤ q → q < 256 → Maps.has D (idLit q) = ks.contains q ∧ (q ∈ ks → D.atKey (idLit q) (.lit (.int .i64 0)) = .lit (.int .i64 (ks.idxOf q : Nat)))

theorem good_start : Good (.map []) [] := fun q _ _ => ⟨rfl, fun h => by cases h⟩
theorem good_old {D : DataW Unit} {ks : List Int} (h : Good D ks) (k : Int) (k0 : 0 ≤ k) (k1 : k < 256) (hh : Maps.has D (idLit k) = true) : Good D (ks ++ [k]) := by
  intro q q0 q1
  obtain ⟨a, b⟩ := h q q0 q1
  have hk := (h k k0 k1).1
  rw [hh] at hk
  have hmem : k ∈ ks := by simpa using hk.symm
  have hq : q ∈ ks ++ [k] ↔ q ∈ ks := by
    simp only [List.mem_append, List.mem_singleton]
    constructor
    · rintro (h | rfl)
      · exact h
      · exact hmem
    · exact .inl
  refine ⟨?_, fun hm => ?_⟩
  · rw [a, Bool.eq_iff_iff]; simp only [List.contains_iff_mem, hq]
  · have := hq.1 hm
    rw [b this, List.idxOf_append, if_pos this]
theorem good_new {D : DataW Unit} {ks : List Int} (h : Good D ks) (hD : IsMap D) (k : Int) (k0 : 0 ≤ k) (k1 : k < 256) (hh : Maps.has D (idLit k) = false) :
    Good (D.put (idLit k) (.lit (.int .i64 (ks.length : Nat)))) (ks ++ [k]) := by
  have hk := (h k k0 k1).1
  rw [hh] at hk
  have hmem : k ∉ ks := by simpa using hk.symm
  intro q q0 q1
  obtain ⟨a, b⟩ := h q q0 q1
  by_cases e : q = k
  · subst e
    refine ⟨?_, fun _ => ?_⟩
    · rw [has_put_same hD (lit_key q q0 q1)]; simp
    · rw [atKey_put_same hD (lit_key q q0 q1), List.idxOf_append, if_neg hmem]; simp
  · have hne : idLit q ≠ idLit k := fun h => e (lit_inj q k q0 q1 k0 k1 h)
    have hq : q ∈ ks ++ [k] ↔ q ∈ ks := by simp [e]
    refine ⟨?_, fun hm => ?_⟩
    · rw [has_put_other hne, a, Bool.eq_iff_iff]; simp only [List.contains_iff_mem, hq]
    · have := hq.1 hm
      rw [atKey_put_other hne, b this, List.idxOf_append, if_pos this]

theorem wf_u8 {a : Int} (h : (Lit.int .u8 a).wf = true) : 0 ≤ a ∧ a < 256 := by
  simp [Lit.wf, IntKind.min, IntKind.max, IntKind.signed, IntKind.bits] at h; omega

theorem mkmap (n : Int) (w : World) : (Instr.makeMap 36 (some (.int .i64 n))).run Yba.prog w = .ok (.map (some w.heap.size)) (w.alloc (.map #[] 0)) := by
  simp [Instr.makeMap, run_underlying Yba.underlying36, asInt, asIntOf]

theorem add_block (x : Addr) (j : Nat) : (x.add j).block = x.block := by unfold Addr.add; split <;> rfl

theorem take_snoc (z : List Int) (j : Nat) (h : j < z.length) : z.take (j + 1) = z.take j ++ [z.getD j 0] := by
  rw [List.take_succ_eq_append_getElem h]; simp [List.getD, h]

theorem getD_take (z : List Int) (j i : Nat) (hi : i < j) : (z.take j).getD i 0 = z.getD i 0 := by
  simp [List.getD, hi]
theorem found_at (z : List Int) (j m : Nat) (q : Int) (hl : (z.take j).length = j) (hm : m < j) (hq : z.getD m 0 = q) (hno : ∀ i, i < m → z.getD i 0 ≠ q) :
    q ∈ z.take j ∧ (z.take j).idxOf q = m := by
  have h1 : (z.take j).getD m 0 = q := by rw [getD_take z j m hm]; exact hq
  have hno' : ∀ i, i < m → (z.take j).getD i 0 ≠ q := fun i hi => by rw [getD_take z j i (by omega)]; exact hno i hi
  generalize z.take j = l at *
  clear hq hno
  have hml : m < l.length := by omega
  have hmem : q ∈ l := by rw [← h1]; simp [List.getD, hml]
  refine ⟨hmem, ?_⟩
  have hlt : l.idxOf q < l.length := List.idxOf_lt_length_of_mem hmem
  have hget : l[l.idxOf q] = q := by simp
  have hle : m ≤ l.idxOf q := by
    refine Nat.le_of_not_lt fun h => hno' _ h ?_
    simp [List.getD, hlt, hget]
  have hge : l.idxOf q ≤ m := by
    refine Nat.le_of_not_lt fun h => ?_
    have := List.not_of_lt_findIdx (p := fun x => x == q) (xs := l) (i := m) h
    simp [List.getD, hml] at h1
    simp [h1] at this
  omega
theorem not_found (z : List Int) (j : Nat) (q : Int) (hno : ∀ i, i < j → z.getD i 0 ≠ q) : q ∉ z.take j := by
  intro h
  obtain ⟨i, hi, e⟩ := List.mem_iff_getElem.1 h
  have hi' : i < j := by simp at hi; omega
  have hz : i < z.length := by simp at hi; omega
  refine hno i hi' ?_
  simp at e
  simp [List.getD, hz, e]

set_option maxHeartbeats 1000000 in
set_option maxRecDepth 100000 in
theorem walk_row (x : Addr) (len0 cap0 : Nat) (z0 : List Int) (a1 : Int) (a2 : Int) (w : World) (hlc : len0 ≤ cap0) (hcm : cap0 ≤ maxLen) (hzl : z0.length = cap0)
    (hcell : ∀ i, i < z0.length → w.cell? (x.add i) = some (.int .u8 (z0.getD i 0))) (hwf : ∀ n ∈ z0, (Lit.int .u8 n).wf = true) (q0 : 0 ≤ a1) (q1 : a1 < 256) (hlen : len0 ≤ 1024) (hpos : 0 < len0) :
    Calls Yba.prog 5 #[.slice (some x) len0 cap0, .int .u8 a1, .int .i64 a2] w fun e w' => e = .returned (.bool true) ∧ Below w.heap.size w w' := by
  have hmm := mkmap
  have hlen' : ¬ (1024 : Int) < (len0 : Int) := by omega
  have HCELL : Hid (∀ i, i < z0.length → w.cell? (x.add i) = some (.int .u8 (z0.getD i 0))) := hcell
  have HWF : Hid (∀ n ∈ z0, (Lit.int .u8 n).wf = true) := hwf
  have hxb : x.block < w.heap.size := by have := hcell 0 (by omega); exact World.block_lt_of_cell? w _ this
  have HZL : Hid (z0.length = cap0) := hzl
  clear hcell hwf hzl
  go_enter Yba.func5, Yba.ntmps5
  go_wp2_with fail
  go_loopw [28] (fun c wr => ∃ (j : Nat) (D : DataW Unit), j ≤ len0 ∧ c = .int .i64 j ∧ wr.ownsMap Yba.prog 40 (plainElem Yba.prog 3) w.heap.size j D ∧ Good D (z0.take j) ∧ Below w.heap.size w wr) (fun c _ => len0 - (intOf c).toNat)
  case atStart => exact ⟨0, .map [], by omega, rfl, World.ownsMap_made _ _ _ _, good_start, (Below.refl _ _).alloc (Nat.le_refl _) _⟩
  case round =>
    obtain ⟨j, D, hj, rfl, hown, hgood, hbel⟩ := hrel
    by_cases hlt : j < len0
    · have hlt' : j < z0.length := by have := HZL.out; omega
      have hcj := HCELL.out j hlt'
      have hwj := HWF.out (z0.getD j 0) (by simp [List.getD, hlt'])
      have hts := take_snoc z0 j hlt'
      generalize z0.getD j 0 = kj at *
      have hcj' : wr.cell? (x.add j) = some (.int .u8 kj) := by rw [hbel.cell (by rw [add_block]; exact hxb)]; exact hcj
      obtain ⟨k0, k1⟩ := wf_u8 hwj
      have HTS : Hid (z0.take (j + 1) = z0.take j ++ [kj]) := hts
      clear hts hcj hwj
      go_wp2_with fail
      refine (cid_calls kj wr).mono ?_
      rintro e w' ⟨rfl, o1, o2, rfl⟩
      unfold idVal
      have hown3 := ((hown.alloc (.cells o1 40)).alloc (.cells o2 40)).alloc (.cells (idArr kj) 40)
      have hkey := key_id kj k0 k1
      have hbel3 : Below w.heap.size w (((wr.alloc (.cells o1 40)).alloc (.cells o2 40)).alloc (.cells (idArr kj) 40)) :=
        ((hbel.alloc hbel.size _).alloc (by have := hbel.size; simp; omega) _).alloc (by have := hbel.size; simp; omega) _
      cases hh : Maps.has D (idLit kj)
      · have hnew := good_new hgood hown.isMap kj k0 k1 hh
        rw [← HTS.out, List.length_take, Nat.min_eq_left (by omega)] at hnew
        go_wp2_with (first
          | (at_lookup; refine wpList_lookup_own_ok_int _ rfl _ _ 36 rfl 40 3 .i64 klaw Yba.underlying36 Yba.underlying3 (zero3 _) w.heap.size j D rfl hown3 _ _ rfl hkey ?_; intro cL hat hwc; rw [hh])
          | (at_mapUpdate; refine wpList_mapUpdate_own _ rfl _ _ _ 36 rfl 40 3 klaw Yba.underlying36 _ w.heap.size j D rfl hown3 (by unfold maxLen; omega) _ _ _ rfl rfl hkey _ [] (plainElem_int Yba.underlying3 (WalkArith.wf_i64 (by omega))) ?_; intro w1 hown1 hgrow1))
        go_roundw
        case rel => exact ⟨j + 1, _, by omega, by go_num, hown1, hnew, hbel3.grown hgrow1 hbel3.size (fun k hk => by cases hk; exact Nat.le_refl _)⟩
        case measure => simp [intOf]; omega
      · have hold := good_old hgood kj k0 k1 hh
        rw [← HTS.out] at hold
        go_wp2_with (first
          | (at_lookup; refine wpList_lookup_own_ok_int _ rfl _ _ 36 rfl 40 3 .i64 klaw Yba.underlying36 Yba.underlying3 (zero3 _) w.heap.size j D rfl hown3 _ _ rfl hkey ?_; intro cL hat hwc; rw [hh]))
        go_roundw
        case rel => exact ⟨j + 1, D, by omega, by go_num, hown3.mono (by omega), hold, hbel3⟩
        case measure => simp [intOf]; omega
    · obtain rfl : j = len0 := by omega
      go_wp2_with fail
      refine (cid_calls a1 _).mono ?_
      rintro e w' ⟨rfl, o1, o2, rfl⟩
      unfold idVal
      go_wp2_with fail
      refine (findAt_map wr.heap.size w.heap.size j a1 a2 D _ q0 q1 (((hown.alloc _).alloc _).alloc _) (by simp [go_sem]) (by simp [go_sem])).mono ?_
      rintro e w2 ⟨c, rfl, hat, hb2⟩
      have hbw : Below w.heap.size w w2 :=
        (((hbel.alloc hbel.size _).alloc (by have := hbel.size; simp; omega) _).alloc (by have := hbel.size; simp; omega) _).trans (hb2.mono (by have := hbel.size; simp; omega))
      have HCELL2 : Hid (∀ i, i < j → w2.cell? (x.add i) = some (.int .u8 (z0.getD i 0))) := by
        intro i hi
        rw [hbw.cell (by rw [add_block]; exact hxb)]
        exact HCELL.out i (by have := HZL.out; omega)
      have HG := hgood a1 q0 q1
      have HA : Hid (D.atKey (idLit a1) (.lit (.int .i64 0)) = .lit (.int .i64 c)) := hat
      have HLEN : Hid ((z0.take j).length = j) := by have := HZL.out; simp [Hid]; omega
      clear hat hb2 hown hbel hlt hj
      obtain ⟨hg1, hg2⟩ := HG
      have HG1 : Hid (Maps.has D (idLit a1) = (z0.take j).contains a1) := hg1
      have HG2 : Hid (a1 ∈ z0.take j → D.atKey (idLit a1) (.lit (.int .i64 0)) = .lit (.int .i64 ((z0.take j).idxOf a1 : Nat))) := hg2
      clear hg1 hg2 hgood
      go_wp2_with fail
      go_loop [16, 17, 60] (fun a b t => ∃ m : Nat, m ≤ j ∧ a = .int .i64 0 ∧ b = .bool false ∧ t = .int .i64 m ∧ ∀ i, i < m → z0.getD i 0 ≠ a1) (fun _ _ t => j - (intOf t).toNat)
      case atStart => exact ⟨0, by omega, rfl, rfl, rfl, fun i h => by omega⟩
      case round =>
        obtain ⟨m, hm, rfl, rfl, rfl, hno⟩ := hrel
        have HNO : Hid (∀ i, i < m → z0.getD i 0 ≠ a1) := hno
        clear hno
        by_cases hlt : m < j
        · have hcm := HCELL2.out m hlt
          cases hk : (z0.getD m 0 == a1)
          · have HNE : Hid (∀ i, i < m + 1 → z0.getD i 0 ≠ a1) := by
              intro i hi
              by_cases e : i = m
              · subst e; simpa using hk
              · exact HNO.out i (by omega)
            generalize z0.getD m 0 = km at *
            go_wp2_with fail
            go_round
            case rel => exact ⟨m + 1, by omega, rfl, rfl, by go_num, HNE.out⟩
            case measure => simp [intOf]; omega
          · have hfound := found_at z0 j m a1 HLEN.out hlt (by simpa using hk) HNO.out
            have hc : (c == (m : Int)) = true := by
              have h2 := HG2.out hfound.1
              rw [HA.out, hfound.2] at h2
              simp only [DataW.lit.injEq, Lit.int.injEq, true_and] at h2
              simpa using h2
            have hhas : Maps.has D (idLit a1) = true := by rw [HG1.out]; simpa using hfound.1
            generalize z0.getD m 0 = km at *
            clear hfound
            go_wp2_with fail
            go_ret
            exact ⟨rfl, hbw⟩
        · have hnot := not_found z0 j a1 (by have : m = j := by omega
                                             rw [← this]; exact HNO.out)
          have hhas : Maps.has D (idLit a1) = false := by rw [HG1.out]; simpa using hnot
          have hc : (c == (0 : Int)) = true := by
            have h2 := HA.out
            rw [atKey_of_not_has hhas] at h2
            simp only [DataW.lit.injEq, Lit.int.injEq, true_and] at h2
            simpa using h2.symm
          clear hnot
          go_wp2_with fail
          go_ret
          exact ⟨rfl, hbw⟩

set_option maxHeartbeats 1000000 in
set_option maxRecDepth 100000 in
theorem walk_long (a : Option Addr) (len0 cap0 : Nat) (a1 : Int) (a2 : Int) (w : World) (hlen : 1024 < len0) :
    Calls Yba.prog 5 #[.slice a len0 cap0, .int .u8 a1, .int .i64 a2] w fun e w' => e = .returned (.bool true) ∧ Below w.heap.size w w' := by
  have hlen' : (1024 : Int) < (len0 : Int) := by omega
  go_enter Yba.func5, Yba.ntmps5
  go_wp2_with fail
  go_ret
  exact ⟨rfl, Below.refl _ _⟩

set_option maxHeartbeats 1000000 in
set_option maxRecDepth 100000 in
theorem walk_none (a : Option Addr) (cap0 : Nat) (a1 : Int) (a2 : Int) (w : World) (q0 : 0 ≤ a1) (q1 : a1 < 256) :
    Calls Yba.prog 5 #[.slice a 0 cap0, .int .u8 a1, .int .i64 a2] w fun e w' => e = .returned (.bool true) ∧ Below w.heap.size w w' := by
  have hmm := mkmap
  go_enter Yba.func5, Yba.ntmps5
  go_wp2_with fail
  go_loopw [28] (fun c wr => c = .int .i64 0 ∧ wr = w.alloc (.map #[] 0)) (fun _ _ => 0)
  case atStart => exact ⟨rfl, rfl⟩
  case round =>
    obtain ⟨rfl, rfl⟩ := hrel
    go_wp2_with fail
    refine (cid_calls a1 _).mono ?_
    rintro e w' ⟨rfl, o1, o2, rfl⟩
    unfold idVal
    go_wp2_with fail
    refine (findAt_map (w.heap.size + 1) w.heap.size 0 a1 a2 (.map []) _ q0 q1 ((((World.ownsMap_made w Yba.prog 40 (plainElem Yba.prog 3)).alloc _).alloc _).alloc _) (by simp [go_sem]) (by simp [go_sem])).mono ?_
    rintro e w2 ⟨c, rfl, hat, hb2⟩
    have hbw : Below w.heap.size w w2 :=
      (((((Below.refl _ _).alloc (Nat.le_refl _) _).alloc (by simp) _).alloc (by simp; omega) _).alloc (by simp; omega) _).trans (hb2.mono (by simp; omega))
    have hhas : Maps.has (.map [] : DataW Unit) (idLit a1) = false := rfl
    have hc : c = 0 := by
      rw [atKey_of_not_has hhas] at hat
      simp only [DataW.lit.injEq, Lit.int.injEq, true_and] at hat
      exact hat.symm
    subst hc
    clear hat hb2
    go_wp2_with fail
    go_loop [16, 17, 60] (fun a b t => a = .int .i64 0 ∧ b = .bool false ∧ t = .int .i64 0) (fun _ _ _ => 0)
    case atStart => exact ⟨rfl, rfl, rfl⟩
    case round =>
      obtain ⟨rfl, rfl, rfl⟩ := hrel
      go_wp2_with fail
      go_ret
      exact ⟨rfl, hbw⟩

theorem walk (a0 : Option Addr) (len0 cap0 : Nat) (z0 : List Int) (a1 : Int) (a2 : Int) (w : World) (w0 : IsRow .u8 w a0 len0 cap0 z0) (w1 : (Lit.int .u8 a1).wf = true) (w2 : (Lit.int .i64 a2).wf = true) :
    Calls Yba.prog 5 #[.slice a0 len0 cap0, .int .u8 a1, .int .i64 a2] w fun e w' => e = .returned (.bool true) ∧ Below w.heap.size w w' := by
  obtain ⟨q0, q1⟩ := wf_u8 w1
  rcases w0 with ⟨rfl, rfl, rfl, rfl⟩ | ⟨x, rfl, h1, h2, h3, h4, h5⟩
  · exact walk_none _ _ _ _ _ q0 q1
  · by_cases hz : len0 = 0
    · subst hz; exact walk_none _ _ _ _ _ q0 q1
    · by_cases hl : 1024 < len0
      · exact walk_long _ _ _ _ _ _ hl
      · exact walk_row x len0 cap0 z0 a1 a2 w h1 h2 h3 h4 h5 q0 q1 (by omega) (by omega)

/-! ### THE ROW's STEP: WRITTEN OUT: LEAVE IT -/
set_option maxRecDepth 100000 in
theorem lifted (os : Os) (started : os.Started) (H : Type) (enc : TypeId × Value → H) :
    ReturnsInHanded {} Yba.checked os 5 .any (Rows.lawS4118CMapBranchSpec.pre6 enc Yba.prog Yba.f5 Rows.lawS4118CMapBranchRow.domain false) (Rows.lawS4118CMapBranchSpec.post enc Yba.prog Yba.f5 false true false false) := by
  refine returnsInHanded_of_change (C := Yba.checked) own started (by kernel_rfl) Yba.func5
    (ChangeSpec.witness6 (enc := enc) (C := Yba.checked) false ⟨#[], #[.slice none 0 0, .int .u8 0, .int .i64 0], []⟩ 8 (by kernel_rfl) (by kernel_rfl) (by kernel_rfl) (by kernel_rfl)) ?_
  intro W base args ds gs before hval0 hW hcnd _
  have hval : ∀ (j : Nat) t v, Yba.f5.params[j]? = some t → args[j]? = some v → Value.okWide Yba.prog W .any base t v := hval0
  have hW' := hW
  obtain ⟨p, q, hA0, hV, rfl, hfz, hnd⟩ := hW
  have hA : DataW.TrodAll enc Yba.prog W 0 (fun _ => true) true Yba.f5.params.toList args.toList ds p := hA0
  rw [Yba.params5] at hA hval
  obtain ⟨v0, vs0, d0, ds0, p0, q0, hargs, rfl, rfl, h0, r0⟩ := trodAll_cons hA
  obtain ⟨v1, vs1, d1, ds1, p1, q1, rfl, rfl, rfl, h1, r1⟩ := trodAll_cons r0
  obtain ⟨v2, vs2, d2, ds2, p2, q2, rfl, rfl, rfl, h2, r2⟩ := trodAll_cons r1
  obtain ⟨rfl, rfl, rfl⟩ := trodAll_nil r2
  obtain rfl : args = #[v0, v1, v2] := by cases args; simp_all
  obtain ⟨rfl, rfl⟩ := trodVars_none hV
  obtain ⟨a0, len0, cap0, rfl⟩ := okWide_slice Yba.underlying25 (hval 0 25 v0 rfl rfl)
  have k0 := h0
  have lt0 : ∀ x ∈ p0, x.block < W.heap.size := by obtain ⟨m, hm⟩ := k0; exact DataW.trod_lt m _ _ _ hm
  obtain ⟨z0, w0⟩ : ∃ zs, IsRow .u8 W a0 len0 cap0 zs := by
    obtain ⟨fuel, hf⟩ := h0
    rcases open_ints Yba.underlying25 Yba.underlying5 (by kernel_rfl) hf with ⟨hcs, _⟩ | ⟨x, l, c, zs, hcs, _, hl, hm, hz, _, hcell, hwz⟩
    · simp [Value.cells] at hcs
      obtain ⟨rfl, rfl, rfl⟩ := hcs
      exact ⟨[], .inl ⟨rfl, rfl, rfl, rfl⟩⟩
    · simp [Value.cells] at hcs
      obtain ⟨rfl, rfl, rfl⟩ := hcs
      exact ⟨zs, .inr ⟨_, rfl, hl, hm, by simpa using hz, hcell, hwz⟩⟩
  obtain ⟨a1, rfl, rfl, rfl, w1⟩ := open_int Yba.underlying5 (hval 1 5 v1 rfl rfl) h1
  obtain ⟨a2, rfl, rfl, rfl, w2⟩ := open_int Yba.underlying3 (hval 2 3 v2 rfl rfl) h2
  clear hA0 hval0
  refine (walk a0 len0 cap0 z0 a1 a2 W w0 w1 w2).mono fun e W' ⟨he, bel⟩ => ?_
  subst he
  exact ⟨_, rfl, _, _, _, [], _, [], hW', trodAll_mk1 (shut_bool Yba.underlying4 _), (trodAll_cons_mk (Below.trod laidOut' (by kernel_rfl) (of_decide_eq_true (by kernel_rfl)) k0 bel lt0) (trodAll_cons_mk (shut_int Yba.underlying5 w1) (trodAll_cons_mk (shut_int Yba.underlying3 w2) trodAll_mk0))), rfl, bel.frame _, fun h => by cases h⟩

theorem over : Rows.lawS4118CMapBranchRow.holds Yba.pinned (OpenSpec.ofChange Rows.lawS4118CMapBranchSpec) :=
  OpenClaim.holds_of_wide 5 Yba.f5 rfl rfl rfl rfl rfl rfl rfl ⟨rfl, rfl, rfl, rfl, rfl⟩ rfl rfl rfl rfl rfl (by kernel_rfl) Yba.func5 (by kernel_rfl)
    (of_decide_eq_true (by kernel_rfl)) (by unfold Func.isWrapper; first | (rw [if_pos (by decide +kernel)]; kernel_rfl) | (rw [if_neg (by decide +kernel)]; exact ⟨rfl, rfl⟩))
    (fun os started H enc _ => lifted os started H enc)

/-- ████ THE STATEMENT ████ -/
theorem proved : Rows.LawS4118CMapBranchSaid := over
#print axioms proved
end Go.Proofs.Ybulkcggk.lawS4118CMapBranch
