/-
  'Rows.LawS4118CLookupBranchSaid': in a Bitmap with a stored layout findAt answers the first row whose position is at least uint32(i), and whether it is that.
-/
import Derived.Test.YbulkcggkRows
import Derived.Test.YbulkcggkLookKit2
import Derived.WalkKit
import Derived.ProofKit
import Derived.OpenShut
import Derived.ShutString
import Derived.ChangeOld
import Derived.Below
import Derived.Laws.MakeOwn
import Derived.Deep.RegionWith
namespace Go.Proofs.Ybulkcggk.lawS4118CLookupBranch
open Go.ChangeShapes Go.WideShapes Go.ChangeAt Go.RowKit
open Go.ChangeMaps (open_string shut_string)
open Go.Proofs.Ybulkcggk.LookB
set_option linter.unusedVariables false

theorem own : ownKnob Yba.prog.godebug = none := by kernel_rfl
theorem laidOut : laidOutB Yba.prog = true := by kernel_rfl

/-- What the walk is told of a slice of integers that came in (the shell's own). -/
def IsRow (k : IntKind) (w : World) (a : Option Addr) (len cap : Nat) (zs : List Int) : Prop :=
  (a = none ∧ len = 0 ∧ cap = 0 ∧ zs = []) ∨
  ∃ x, a = some x ∧ len ≤ cap ∧ cap ≤ maxLen ∧ zs.length = cap ∧ (∀ i, i < zs.length → w.cell? (x.add i) = some (.int k (zs.getD i 0))) ∧ ∀ n ∈ zs, (Lit.int k n).wf = true

/-! ### plain: sums -/
def S (z : List Int) : Nat → Int
  | 0 => 0
  | k + 1 => S z k + z.getD k 0
theorem S_bd (z : List Int) (h : ∀ n ∈ z, 0 ≤ n ∧ n < 256) : ∀ k, 0 ≤ S z k ∧ S z k ≤ 255 * (k : Int) := by
  intro k
  induction k with
  | zero => simp [S]
  | succ k ih =>
    have : 0 ≤ z.getD k 0 ∧ z.getD k 0 < 256 := by
      by_cases hk : k < z.length
      · exact h _ (by simp [List.getD, hk])
      · simp [List.getD, hk]
    simp only [S]
    omega
theorem S_mono (z : List Int) (h : ∀ n ∈ z, 0 ≤ n ∧ n < 256) (a : Nat) : ∀ d, S z a ≤ S z (a + d) := by
  intro d
  induction d with
  | zero => simp
  | succ d ih =>
    have : 0 ≤ z.getD (a + d) 0 ∧ z.getD (a + d) 0 < 256 := by
      by_cases hk : a + d < z.length
      · exact h _ (by simp [List.getD, hk])
      · simp [List.getD, hk]
    show S z a ≤ S z (a + d) + z.getD (a + d) 0
    omega

def Z32 (n : Nat) : Array Value := madeCells #[.int .u32 0] n
def Z8 (n : Nat) : Array Value := madeCells #[.int .u8 0] n
theorem info51 : (Yba.prog.info? 51).map (fun i => (i.zero, i.size, i.bytes)) = some (some (.int .u32 0), 1, 4) := by kernel_rfl
theorem info5 : (Yba.prog.info? 5).map (fun i => (i.zero, i.size, i.bytes)) = some (some (.int .u8 0), 1, 1) := by kernel_rfl
theorem mk26 (n : Nat) (hn : n ≤ 1024) (w : World) : (Instr.makeSlice 26 (.int .i64 n) (.int .i64 n)).run Yba.prog w = .ok (.slice (some ⟨w.heap.size, 0, none⟩) n n) (w.alloc (.cells (Z32 n) 51)) := by
  have h := info51
  cases hq : Yba.prog.info? 51 with
  | none => simp [hq] at h
  | some i =>
    simp [hq] at h
    obtain ⟨h1, h2, h3⟩ := h
    have := run_make (P := Yba.prog) w 26 51 i (.int .u32 0) Yba.underlying26 hq h1 .i64 .i64 n n (by omega) (by omega) (by rw [h3]; omega) (by omega)
    rw [h2] at this
    simpa [Z32, Value.cells] using this
theorem mk25 (n : Nat) (hn : n ≤ 1024) (w : World) : (Instr.makeSlice 25 (.int .i64 (16 * (n : Int))) (.int .i64 (16 * (n : Int)))).run Yba.prog w = .ok (.slice (some ⟨w.heap.size, 0, none⟩) (16 * n) (16 * n)) (w.alloc (.cells (Z8 (16 * n)) 5)) := by
  have h := info5
  cases hq : Yba.prog.info? 5 with
  | none => simp [hq] at h
  | some i =>
    simp [hq] at h
    obtain ⟨h1, h2, h3⟩ := h
    have := run_make (P := Yba.prog) w 25 5 i (.int .u8 0) Yba.underlying25 hq h1 .i64 .i64 (16 * (n : Int)) (16 * (n : Int)) (by omega) (by omega) (by rw [h3]; omega) (by omega)
    rw [h2, show (16 * (n : Int)).toNat = 16 * n from by omega] at this
    simpa [Z8, Value.cells] using this
theorem z32_cell (w : World) (n i : Nat) (hi : i < n) : ∃ v, (w.alloc (.cells (Z32 n) 51)).cell? ⟨w.heap.size, i, none⟩ = some v := by
  refine ⟨(Z32 n)[i]'(by simp [Z32, madeCells]; exact hi), ?_⟩
  simp [go_sem, Z32, madeCells, hi]
theorem z8_cell (w : World) (n i : Nat) (hi : i < n) : ∃ v, (w.alloc (.cells (Z8 n) 5)).cell? ⟨w.heap.size, i, none⟩ = some v := by
  refine ⟨(Z8 n)[i]'(by simp [Z8, madeCells]; exact hi), ?_⟩
  simp [go_sem, Z8, madeCells, hi]

theorem wf_u8 {a : Int} (h : (Lit.int .u8 a).wf = true) : 0 ≤ a ∧ a < 256 := by
  simp [Lit.wf, IntKind.min, IntKind.max, IntKind.signed, IntKind.bits] at h; omega
theorem add_block (x : Addr) (j : Nat) : (x.add j).block = x.block := by unfold Addr.add; split <;> rfl

set_option maxHeartbeats 1000000 in
set_option maxRecDepth 100000 in
theorem walk_row (a : Option Addr) (n cap0 : Nat) (z : List Int) (i : Int) (w : World) (hn : n ≤ 1024)
    (hcell : ∀ j, j < n → ∃ x : Addr, a = some x ∧ w.cell? (x.add j) = some (.int .u8 (z.getD j 0))) (hz : ∀ m ∈ z, 0 ≤ m ∧ m < 256) :
    Calls Yba.prog 6 #[.slice a n cap0, .int .i64 i] w fun e w' => e = .returned (.bool true) ∧ Below w.heap.size w w' := by
  have hm26 := mk26 n hn
  have hm25 := mk25 n hn
  have hlen' : ¬ (1024 : Int) < (n : Int) := by omega
  have HCELL : Hid (∀ j, j < n → ∃ x : Addr, a = some x ∧ w.cell? (x.add j) = some (.int .u8 (z.getD j 0))) := hcell
  have HZ : Hid (∀ m ∈ z, 0 ≤ m ∧ m < 256) := hz
  clear hcell hz
  go_enter Yba.func6, Yba.ntmps6
  go_wp2_with fail
  go_loopw [7, 29] (fun s c wr => ∃ j : Nat, j ≤ n ∧ s = .int .u32 (S z j) ∧ c = .int .i64 j ∧ (∀ k, k < j → wr.cell? ⟨w.heap.size, k, none⟩ = some (.int .u32 (S z (k + 1)))) ∧ (∀ k, k < n → ∃ v, wr.cell? ⟨w.heap.size, k, none⟩ = some v) ∧ (∀ k, wr.frozen? ⟨w.heap.size, k, none⟩ = false) ∧ wr.heap.size = w.heap.size + 1 ∧ Below w.heap.size w wr) (fun _ c _ => n - (intOf c).toNat)
  case atStart => exact ⟨0, by omega, rfl, rfl, fun k h => by omega, fun k h => z32_cell w n k h, fun k => by simp [go_sem], by simp, (Below.refl _ _).alloc (Nat.le_refl _) _⟩
  case round =>
    obtain ⟨j, hj, rfl, rfl, hpos, hall, hfz, hsz, hb⟩ := hrel
    have HPOS : Hid (∀ k, k < j → wr.cell? ⟨w.heap.size, k, none⟩ = some (.int .u32 (S z (k + 1)))) := hpos
    have HALL : Hid (∀ k, k < n → ∃ v, wr.cell? ⟨w.heap.size, k, none⟩ = some v) := hall
    have HSZ : Hid (wr.heap.size = w.heap.size + 1) := hsz
    clear hpos hall hsz
    by_cases hlt : j < n
    · obtain ⟨x, rfl, hcj⟩ := HCELL.out j hlt
      have hxb : x.block < w.heap.size := by rw [← add_block x j]; exact World.block_lt_of_cell? w _ hcj
      have hcj' : wr.cell? (x.add j) = some (.int .u8 (z.getD j 0)) := by rw [hb.cell (by rw [add_block]; exact hxb)]; exact hcj
      have hzj : 0 ≤ z.getD j 0 ∧ z.getD j 0 < 256 := by
        by_cases hk : j < z.length
        · exact HZ.out _ (by simp [List.getD, hk])
        · simp [List.getD, hk]
      obtain ⟨z0, z1⟩ := hzj
      have hsb := S_bd z HZ.out j
      obtain ⟨s0, s1⟩ := hsb
      obtain ⟨vj, hvj⟩ := HALL.out j hlt
      have HS : Hid (S z (j + 1) = S z j + z.getD j 0) := rfl
      generalize z.getD j 0 = zj at *
      clear hcj
      go_wp2_with fail
      go_roundw
      case rel =>
        refine ⟨j + 1, by omega, by rw [HS.out], by go_num, fun k hk => ?_, fun k hk => ?_, fun k => by simp [hfz], by simpa using HSZ.out, hb.setCell (Nat.le_refl _) _⟩
        · by_cases e : k = j
          · subst e
            rw [World.cell?_setCell_same _ _ _ hvj, HS.out]
          · rw [World.cell?_setCell_other _ _ _ _ (by simp <;> omega)]
            exact HPOS.out k (by omega)
        · by_cases e : k = j
          · subst e
            exact ⟨_, World.cell?_setCell_same _ _ _ hvj⟩
          · rw [World.cell?_setCell_other _ _ _ _ (by simp <;> omega)]
            exact HALL.out k hk
      case measure => simp [intOf]; omega
    · obtain rfl : j = n := by omega
      have HW1 : Hid (IntKind.i64.wrap (16 * (j : Int)) = 16 * (j : Int)) := by unfold Hid; rw [IntKind.wrap_i64]; omega
      have hsz := HSZ.out
      go_wp2_with fail
      go_loopw [48] (fun c wq => ∃ r : Nat, r ≤ j ∧ c = .int .i64 r ∧ (∀ k, k < j → wq.cell? ⟨w.heap.size, k, none⟩ = some (.int .u32 (S z (k + 1)))) ∧ (∀ k, k < 16 * j → ∃ v, wq.cell? ⟨w.heap.size + 1, k, none⟩ = some v) ∧ (∀ k, wq.frozen? ⟨w.heap.size + 1, k, none⟩ = false)
          ∧ (∀ k, k < r → wq.cell? ⟨w.heap.size + 1, 16 * k, none⟩ = some (.int .u8 (S z (k + 1) / 16777216)) ∧ wq.cell? ⟨w.heap.size + 1, 16 * k + 1, none⟩ = some (.int .u8 (S z (k + 1) / 65536 % 256)) ∧ wq.cell? ⟨w.heap.size + 1, 16 * k + 2, none⟩ = some (.int .u8 (S z (k + 1) / 256 % 256)) ∧ wq.cell? ⟨w.heap.size + 1, 16 * k + 3, none⟩ = some (.int .u8 (S z (k + 1) % 256)))
          ∧ w.heap.size + 1 < wq.heap.size ∧ Below w.heap.size w wq) (fun c _ => j - (intOf c).toNat)
      case atStart =>
        refine ⟨0, by omega, rfl, fun k hk => ?_, fun k hk => ?_, fun k => ?_, fun k hk => by omega, ?_, hb.alloc hb.size _⟩
        · rw [World.cell?_alloc_lt _ _ _ (by show w.heap.size < wr.heap.size; omega)]; exact HPOS.out k hk
        · rw [← hsz]; exact z8_cell wr (16 * j) k hk
        · rw [frozen?_alloc_cells]; simp [World.frozen?, Array.getElem?_eq_none (show wr.heap.size ≤ w.heap.size + 1 by omega)]
        · simp; omega
      case round =>
        obtain ⟨r, hr, rfl, hpos, hall, hfz2, hput, hsz2, hb2⟩ := hrel
        have HPOS2 : Hid (∀ k, k < j → wr.cell? ⟨w.heap.size, k, none⟩ = some (.int .u32 (S z (k + 1)))) := hpos
        have HALL2 : Hid (∀ k, k < 16 * j → ∃ v, wr.cell? ⟨w.heap.size + 1, k, none⟩ = some v) := hall
        have HPUT : Hid (∀ k, k < r → wr.cell? ⟨w.heap.size + 1, 16 * k, none⟩ = some (.int .u8 (S z (k + 1) / 16777216)) ∧ wr.cell? ⟨w.heap.size + 1, 16 * k + 1, none⟩ = some (.int .u8 (S z (k + 1) / 65536 % 256)) ∧ wr.cell? ⟨w.heap.size + 1, 16 * k + 2, none⟩ = some (.int .u8 (S z (k + 1) / 256 % 256)) ∧ wr.cell? ⟨w.heap.size + 1, 16 * k + 3, none⟩ = some (.int .u8 (S z (k + 1) % 256))) := hput
        clear hpos hall hput
        by_cases hlt2 : r < j
        · have hcr := HPOS2.out r hlt2
          obtain ⟨v0, c0⟩ := HALL2.out (16 * r) (by omega)
          obtain ⟨v1, c1⟩ := HALL2.out (16 * r + 1) (by omega)
          obtain ⟨v2, c2⟩ := HALL2.out (16 * r + 2) (by omega)
          obtain ⟨v3, c3⟩ := HALL2.out (16 * r + 3) (by omega)
          have hsb := S_bd z HZ.out (r + 1)
          obtain ⟨p0, p1⟩ := hsb
          have hw1 : IntKind.i64.wrap (16 * (r : Int)) = 16 * (r : Int) := by rw [IntKind.wrap_i64]; omega
          have htn : (16 * (r : Int)).toNat = 16 * r := by omega
          have h16 : 16 * (r : Int) ≤ 16 * (j : Int) := by omega
          have h160 : 0 ≤ 16 * (r : Int) := by omega
          have hne : ¬ 16 * j = 16 * r := by omega
          have hrj : r ≤ j := by omega
          have hput4 : 4 ≤ 16 * j - 16 * r := by omega
          have p2 : S z (r + 1) < 4294967296 := by omega
          have HPR : Hid (∀ k, k = r → S z (k + 1) = S z (r + 1)) := fun k e => by rw [e]
          generalize S z (r + 1) = pr at *
          clear p1
          go_wp2_with fail
          go_region_with (first
            | (go_at_call 12; refine (put_calls (w.heap.size + 1) (16 * r) _ _ pr _ p0 p2 hput4 v0 v1 v2 v3 (by simpa [go_sem] using c0) (by simpa [go_sem] using c1) (by simpa [go_sem] using c2) (by simpa [go_sem] using c3) (by simpa [go_sem] using hfz2 _) (by simpa [go_sem] using hfz2 _) (by simpa [go_sem] using hfz2 _) (by simpa [go_sem] using hfz2 _)).mono ?_; rintro e w' ⟨rfl, hp⟩))
          go_wp2_with fail
          go_roundw
          case rel =>
            have hpb : Below w.heap.size wr w' := ⟨hp.below.os, hp.below.tape, hp.below.output, hp.below.size, fun k hk => hp.below.block k (by omega)⟩
            refine ⟨r + 1, by omega, by go_num, fun k hk => ?_, fun k hk => ?_, fun k => ?_, fun k hk => ?_, Nat.lt_of_lt_of_le hsz2 hp.below.size, hb2.trans hpb⟩
            · rw [hp.below.cell (by show w.heap.size < w.heap.size + 1; omega)]; exact HPOS2.out k hk
            · by_cases e : k < 16 * r ∨ 16 * r + 3 < k
              · rw [hp.other k e]; exact HALL2.out k hk
              · obtain rfl | rfl | rfl | rfl : k = 16 * r ∨ k = 16 * r + 1 ∨ k = 16 * r + 2 ∨ k = 16 * r + 3 := by omega
                · exact ⟨_, hp.b0⟩
                · exact ⟨_, hp.b1⟩
                · exact ⟨_, hp.b2⟩
                · exact ⟨_, hp.b3⟩
            · rw [hp.frozen _ (by exact hsz2)]; exact hfz2 k
            · by_cases e : k = r
              · rw [HPR.out k e, e]; exact ⟨hp.b0, hp.b1, hp.b2, hp.b3⟩
              · obtain ⟨q0, q1, q2, q3⟩ := HPUT.out k (by omega)
                exact ⟨(hp.other _ (by omega)).trans q0, (hp.other _ (by omega)).trans q1, (hp.other _ (by omega)).trans q2, (hp.other _ (by omega)).trans q3⟩
          case measure => simp [intOf]; omega
        · obtain rfl : r = j := by omega
          have HMONO : Hid (∀ a b : Nat, a ≤ b → b < r → S z (a + 1) ≤ S z (b + 1)) := fun a b h1 _ => by
            have := S_mono z HZ.out (a + 1) (b - a)
            rw [show a + 1 + (b - a) = b + 1 from by omega] at this
            exact this
          obtain ⟨t, ht⟩ : ∃ t, i % 4294967296 = t := ⟨_, rfl⟩
          go_wp2_with fail
          refine (findAt_look (wr.heap.size + 1) wr.heap.size (w.heap.size + 1) r (fun k => S z (k + 1)) _ i t _ ?_ hn HMONO.out (by simp [go_sem]) ht).mono ?_
          · have hbW := fun o1 o2 => ((Below.refl wr.heap.size wr).alloc (Nat.le_refl _) o1).alloc (by simp) o2
            refine ⟨by simp [go_sem], by simp [go_sem], fun k hk => (S_bd z HZ.out (k + 1)).1, fun k hk => ?_, fun k hk => cell_kept (hbW _ _) (HPUT.out k hk).1, fun k hk => cell_kept (hbW _ _) (HPUT.out k hk).2.1, fun k hk => cell_kept (hbW _ _) (HPUT.out k hk).2.2.1, fun k hk => cell_kept (hbW _ _) (HPUT.out k hk).2.2.2⟩
            have := (S_bd z HZ.out (k + 1)).2
            show S z (k + 1) < 4294967296
            omega
          rintro e w2 ⟨q, hq, hlo, hhi, rfl, hb3⟩
          have hb4 : Below wr.heap.size wr w2 := (((Below.refl _ _).alloc (Nat.le_refl _) _).alloc (by simp) _).trans (hb3.mono (by simp; omega))
          have hb5 : Below w.heap.size w w2 := hb2.trans (hb4.mono (by omega))
          have HPOS3 : Hid (∀ k, k < r → w2.cell? ⟨w.heap.size, k, none⟩ = some (.int .u32 (S z (k + 1)))) := fun k hk => cell_kept hb4 (HPOS2.out k hk)
          have HLO : Hid (∀ k, k < q → S z (k + 1) < t) := hlo
          have HHI : Hid (∀ k, q ≤ k → k < r → t ≤ S z (k + 1)) := hhi
          clear hlo hhi hb3 hb4 hb2 hfz2 hfz hb HPUT HALL2 HALL HPOS HCELL hm26 hm25
          generalize hbv : (decide (q < r) && (S z (q + 1) == t)) = bv at *
          have HBV : Hid ((decide (q < r) && (S z (q + 1) == t)) = bv) := hbv
          clear hbv
          go_wp2_with fail
          go_loop [17, 18] (fun a b => ∃ m : Nat, m ≤ r ∧ a = .int .i64 r ∧ b = .int .i64 m ∧ ∀ k, k < m → S z (k + 1) < t) (fun _ b => r - (intOf b).toNat)
          case atStart => exact ⟨0, by omega, rfl, rfl, fun k h => by omega⟩
          case round =>
            obtain ⟨m, hm, rfl, rfl, hno⟩ := hrel
            have HNO : Hid (∀ k, k < m → S z (k + 1) < t) := hno
            clear hno
            by_cases hlt3 : m < r
            · have hcm := HPOS3.out m hlt3
              by_cases hp : t ≤ S z (m + 1)
              · obtain rfl : q = m := by
                  by_cases e1 : m < q
                  · have := HLO.out m e1; omega
                  · by_cases e2 : q < m
                    · have h1 := HNO.out q e2; have h2 := HHI.out q (by omega) (by omega); omega
                    · omega
                have hdd : decide (q < r) = true := by simpa using hlt3
                have HB := HBV.out
                rw [hdd, Bool.true_and] at HB
                clear hdd
                generalize S z (q + 1) = pq at *
                cases hv : (pq == t)
                · rw [hv] at HB
                  subst HB
                  go_wp2_with fail
                  go_ret
                  exact ⟨rfl, hb5⟩
                · rw [hv] at HB
                  subst HB
                  go_wp2_with fail
                  go_ret
                  exact ⟨rfl, hb5⟩
              · have HNO2 : Hid (∀ k, k < m + 1 → S z (k + 1) < t) := fun k hk => by
                  by_cases e : k = m
                  · subst e; omega
                  · exact HNO.out k (by omega)
                generalize S z (m + 1) = pm at *
                go_wp2_with fail
                go_round
                case rel => exact ⟨m + 1, by omega, rfl, by go_num, HNO2.out⟩
                case measure => simp [intOf]; omega
            · obtain rfl : q = r := by
                by_cases e2 : q < r
                · have h1 := HNO.out q (by omega); have h2 := HHI.out q (by omega) e2; omega
                · omega
              have HB := HBV.out
              rw [show decide (q < q) = false from by simp, Bool.false_and] at HB
              subst HB
              go_wp2_with fail
              go_ret
              exact ⟨rfl, hb5⟩

set_option maxHeartbeats 1000000 in
set_option maxRecDepth 100000 in
theorem walk_long (a : Option Addr) (len0 cap0 : Nat) (a1 : Int) (w : World) (hlen : 1024 < len0) :
    Calls Yba.prog 6 #[.slice a len0 cap0, .int .i64 a1] w fun e w' => e = .returned (.bool true) ∧ Below w.heap.size w w' := by
  have hlen' : (1024 : Int) < (len0 : Int) := by omega
  go_enter Yba.func6, Yba.ntmps6
  go_wp2_with fail
  go_ret
  exact ⟨rfl, Below.refl _ _⟩

theorem walk (a0 : Option Addr) (len0 cap0 : Nat) (z0 : List Int) (a1 : Int) (w : World) (w0 : IsRow .u8 w a0 len0 cap0 z0) (w1 : (Lit.int .i64 a1).wf = true) :
    Calls Yba.prog 6 #[.slice a0 len0 cap0, .int .i64 a1] w fun e w' => e = .returned (.bool true) ∧ Below w.heap.size w w' := by
  by_cases hl : 1024 < len0
  · exact walk_long _ _ _ _ _ hl
  · rcases w0 with ⟨rfl, rfl, rfl, rfl⟩ | ⟨x, rfl, h1, h2, h3, h4, h5⟩
    · exact walk_row none 0 0 [] a1 w (by omega) (fun j h => by omega) (fun m h => by cases h)
    · exact walk_row (some x) len0 cap0 z0 a1 w (by omega) (fun j h => ⟨x, rfl, h4 j (by omega)⟩) (fun m hm => wf_u8 (h5 m hm))

/-! ### THE ROW's STEP: WRITTEN OUT: LEAVE IT -/
set_option maxRecDepth 100000 in
theorem lifted (os : Os) (started : os.Started) (H : Type) (enc : TypeId × Value → H) :
    ReturnsInHanded {} Yba.checked os 6 .any (Rows.lawS4118CLookupBranchSpec.pre6 enc Yba.prog Yba.f6 Rows.lawS4118CLookupBranchRow.domain false) (Rows.lawS4118CLookupBranchSpec.post enc Yba.prog Yba.f6 false true false false) := by
  refine returnsInHanded_of_change (C := Yba.checked) own started (by kernel_rfl) Yba.func6
    (ChangeSpec.witness6 (enc := enc) (C := Yba.checked) false ⟨#[], #[.slice none 0 0, .int .i64 0], []⟩ 8 (by kernel_rfl) (by kernel_rfl) (by kernel_rfl) (by kernel_rfl)) ?_
  intro W base args ds gs before hval0 hW hcnd _
  have hval : ∀ (j : Nat) t v, Yba.f6.params[j]? = some t → args[j]? = some v → Value.okWide Yba.prog W .any base t v := hval0
  have hW' := hW
  obtain ⟨p, q, hA0, hV, rfl, hfz, hnd⟩ := hW
  have hA : DataW.TrodAll enc Yba.prog W 0 (fun _ => true) true Yba.f6.params.toList args.toList ds p := hA0
  rw [Yba.params6] at hA hval
  obtain ⟨v0, vs0, d0, ds0, p0, q0, hargs, rfl, rfl, h0, r0⟩ := trodAll_cons hA
  obtain ⟨v1, vs1, d1, ds1, p1, q1, rfl, rfl, rfl, h1, r1⟩ := trodAll_cons r0
  obtain ⟨rfl, rfl, rfl⟩ := trodAll_nil r1
  obtain rfl : args = #[v0, v1] := by cases args; simp_all
  obtain ⟨rfl, rfl⟩ := trodVars_none hV
  obtain ⟨a0, len0, cap0, rfl⟩ := okWide_slice Yba.underlying25 (hval 0 25 v0 rfl rfl)
  have k0 := h0
  have lt0 : ∀ x ∈ p0, x.block < W.heap.size := by obtain ⟨m, hm⟩ := k0; exact DataW.trod_lt m _ _ _ hm
  obtain ⟨z0, w0⟩ : ∃ zs, IsRow .u8 W a0 len0 cap0 zs := by
    obtain ⟨fuel, hf⟩ := h0
    rcases open_ints Yba.underlying25 Yba.underlying5 (by kernel_rfl) hf with ⟨hcs, _⟩ | ⟨x, l, c, zs, hcs, _, hl, hm, hz, _, hcell, hwz⟩
    · simp [Value.cells] at hcs
      obtain ⟨rfl, rfl, rfl⟩ := hcs
      exact ⟨[], .inl ⟨rfl, rfl, rfl, rfl⟩⟩
    · simp [Value.cells] at hcs
      obtain ⟨rfl, rfl, rfl⟩ := hcs
      exact ⟨zs, .inr ⟨_, rfl, hl, hm, by simpa using hz, hcell, hwz⟩⟩
  obtain ⟨a1, rfl, rfl, rfl, w1⟩ := open_int Yba.underlying3 (hval 1 3 v1 rfl rfl) h1
  clear hA0 hval0
  refine (walk a0 len0 cap0 z0 a1 W w0 w1).mono fun e W' ⟨he, bel⟩ => ?_
  subst he
  exact ⟨_, rfl, _, _, _, [], _, [], hW', trodAll_mk1 (shut_bool Yba.underlying4 _), (trodAll_cons_mk (Below.trod laidOut (by kernel_rfl) (of_decide_eq_true (by kernel_rfl)) k0 bel lt0) (trodAll_cons_mk (shut_int Yba.underlying3 w1) trodAll_mk0)), rfl, bel.frame _, fun h => by cases h⟩

theorem over : Rows.lawS4118CLookupBranchRow.holds Yba.pinned (OpenSpec.ofChange Rows.lawS4118CLookupBranchSpec) :=
  OpenClaim.holds_of_wide 6 Yba.f6 rfl rfl rfl rfl rfl rfl rfl ⟨rfl, rfl, rfl, rfl, rfl⟩ rfl rfl rfl rfl rfl (by kernel_rfl) Yba.func6 (by kernel_rfl)
    (of_decide_eq_true (by kernel_rfl)) (by unfold Func.isWrapper; first | (rw [if_pos (by decide +kernel)]; kernel_rfl) | (rw [if_neg (by decide +kernel)]; exact ⟨rfl, rfl⟩))
    (fun os started H enc _ => lifted os started H enc)

/-- ████ THE STATEMENT ████ -/
theorem proved : Rows.LawS4118CLookupBranchSaid := over
#print axioms proved
end Go.Proofs.Ybulkcggk.lawS4118CLookupBranch
