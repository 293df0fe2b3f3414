import Derived.Test.YbulkcggkRows
import Derived.WalkKit
import Derived.ProofKit
import Derived.OpenShut
import Derived.Below
import Derived.Deep.QuietTactic
import Derived.BigQuiet
import Derived.Lib.QuietBelow
import Derived.Lib.EndianBits
import Derived.Deep.RegionHeld3
namespace Go.Proofs.Ybulkcggk.LookB
set_option linter.unusedSimpArgs false
set_option linter.unusedVariables false
open Go.ChangeShapes Go.WideShapes Go.ChangeAt Go.RowKit Go.Sort

theorem ret_int {k : IntKind} {a b : Int} (h : a = b) : Ending.returned (.int k a) = .returned (.int k b) := by rw [h]

/-- What PutUint32 leaves: the four bytes of p from offset o of block g on, highest first; all else that was there is as it was. -/
structure Put (w w' : World) (g o : Nat) (p : Int) : Prop where
  b0 : w'.cell? ⟨g, o, none⟩ = some (.int .u8 (p / 16777216))
  b1 : w'.cell? ⟨g, o + 1, none⟩ = some (.int .u8 (p / 65536 % 256))
  b2 : w'.cell? ⟨g, o + 2, none⟩ = some (.int .u8 (p / 256 % 256))
  b3 : w'.cell? ⟨g, o + 3, none⟩ = some (.int .u8 (p % 256))
  other : ∀ i, (i < o ∨ o + 3 < i) → w'.cell? ⟨g, i, none⟩ = w.cell? ⟨g, i, none⟩
  frozen : ∀ x : Addr, x.block < w.heap.size → w'.frozen? x = w.frozen? x
  below : Below g w w'

theorem put_of (g o : Nat) (p : Int) (w : World) (v0 v1 v2 v3 : Value) (c0 : w.cell? ⟨g, o, none⟩ = some v0) (c1 : w.cell? ⟨g, o + 1, none⟩ = some v1) (c2 : w.cell? ⟨g, o + 2, none⟩ = some v2) (c3 : w.cell? ⟨g, o + 3, none⟩ = some v3) :
    Put w (((((w.setCell ⟨g, o, none⟩ (.int .u8 (p / 16777216))).setCell ⟨g, o + 1, none⟩ (.int .u8 (p / 65536 % 256))).setCell ⟨g, o + 2, none⟩ (.int .u8 (p / 256 % 256))).setCell ⟨g, o + 3, none⟩ (.int .u8 (p % 256))).alloc (.cells #[] 66)) g o p := by
  have hg : g < w.heap.size := World.block_lt_of_cell? w _ c0
  refine ⟨?_, ?_, ?_, ?_, ?_, ?_, ?_⟩
  · simp [go_sem, c0, c1, c2, c3, hg]
  · simp [go_sem, c0, c1, c2, c3, hg]
  · simp [go_sem, c0, c1, c2, c3, hg]
  · simp [go_sem, c0, c1, c2, c3, hg]
  · intro i hi
    rw [World.cell?_alloc_lt _ _ _ (by simpa using hg)]
    rw [World.cell?_setCell_other _ _ _ _ (by simp <;> omega), World.cell?_setCell_other _ _ _ _ (by simp <;> omega), World.cell?_setCell_other _ _ _ _ (by simp <;> omega), World.cell?_setCell_other _ _ _ _ (by simp <;> omega)]
  · intro x hx
    rw [frozen?_alloc_cells]
    simp
  · exact (((((Below.refl g w).setCell (p := ⟨g, o, none⟩) (Nat.le_refl _) _).setCell (p := ⟨g, o + 1, none⟩) (Nat.le_refl _) _).setCell (p := ⟨g, o + 2, none⟩) (Nat.le_refl _) _).setCell (p := ⟨g, o + 3, none⟩) (Nat.le_refl _) _).alloc (by simp; omega) _

set_option maxHeartbeats 400000 in
theorem put_calls (g o len cap : Nat) (p : Int) (w : World) (h0 : 0 ≤ p) (h1 : p < 4294967296) (hl : 4 ≤ len)
   (v0 v1 v2 v3 : Value) (c0 : w.cell? ⟨g, o, none⟩ = some v0) (c1 : w.cell? ⟨g, o + 1, none⟩ = some v1) (c2 : w.cell? ⟨g, o + 2, none⟩ = some v2) (c3 : w.cell? ⟨g, o + 3, none⟩ = some v3)
   (f0 : w.frozen? ⟨g, o, none⟩ = false) (f1 : w.frozen? ⟨g, o + 1, none⟩ = false) (f2 : w.frozen? ⟨g, o + 2, none⟩ = false) (f3 : w.frozen? ⟨g, o + 3, none⟩ = false) :
   Calls Yba.prog 12 #[.agg #[], .slice (some ⟨g, o, none⟩) len cap, .int .u32 p] w fun e w' => e = .returned (.tuple #[]) ∧ Put w w' g o p := by
  have hg : g < w.heap.size := World.block_lt_of_cell? w _ c0
  go_enter Yba.func12, Yba.ntmps12
  go_wp2_with fail
  go_end0
  exact ⟨rfl, put_of g o p w v0 v1 v2 v3 c0 c1 c2 c3⟩

theorem join4 (b0 b1 b2 b3 : Int) (h0a : 0 ≤ b0) (h0b : b0 < 256) (h1a : 0 ≤ b1) (h1b : b1 < 256) (h2a : 0 ≤ b2) (h2b : b2 < 256) (h3a : 0 ≤ b3) (h3b : b3 < 256) :
    bits BinOp.or IntKind.u32 (bits BinOp.or IntKind.u32 (bits BinOp.or IntKind.u32 b3 (b2 * 256)) (b1 * 65536)) (b0 * 16777216) = b0 * 16777216 + b1 * 65536 + b2 * 256 + b3 := by
  rw [u32_or8 b3 (b2 * 256) h3a h3b (by omega) (by omega) (by omega), u32_or16 (b3 + b2 * 256) (b1 * 65536) (by omega) (by omega) (by omega) (by omega) (by omega),
    u32_or24 (b3 + b2 * 256 + b1 * 65536) (b0 * 16777216) (by omega) (by omega) (by omega) (by omega) (by omega)]
  omega

set_option maxHeartbeats 400000 in
theorem get_calls (g o len cap : Nat) (p : Int) (w : World) (p0 : 0 ≤ p) (p1 : p < 4294967296) (hl : 4 ≤ len)
   (c0 : w.cell? ⟨g, o, none⟩ = some (.int .u8 (p / 16777216))) (c1 : w.cell? ⟨g, o + 1, none⟩ = some (.int .u8 (p / 65536 % 256))) (c2 : w.cell? ⟨g, o + 2, none⟩ = some (.int .u8 (p / 256 % 256))) (c3 : w.cell? ⟨g, o + 3, none⟩ = some (.int .u8 (p % 256))) :
   Calls Yba.prog 16 #[.agg #[], .slice (some ⟨g, o, none⟩) len cap] w fun e w' => e = .returned (.int .u32 p) ∧ Below w.heap.size w w' := by
  have hg : g < w.heap.size := World.block_lt_of_cell? w _ c0
  have HP : Hid ((p / 16777216) * 16777216 + (p / 65536 % 256) * 65536 + (p / 256 % 256) * 256 + (p % 256) = p) := by unfold Hid; omega
  have h0a : 0 ≤ p / 16777216 := by omega
  have h0b : p / 16777216 < 256 := by omega
  have h1a : 0 ≤ p / 65536 % 256 := by omega
  have h1b : p / 65536 % 256 < 256 := by omega
  have h2a : 0 ≤ p / 256 % 256 := by omega
  have h2b : p / 256 % 256 < 256 := by omega
  have h3a : 0 ≤ p % 256 := by omega
  have h3b : p % 256 < 256 := by omega
  generalize p / 16777216 = b0 at *
  generalize p / 65536 % 256 = b1 at *
  generalize p / 256 % 256 = b2 at *
  generalize p % 256 = b3 at *
  go_enter Yba.func16, Yba.ntmps16
  go_wp2_with fail
  go_quiet (fail)
  go_wp2_with fail
  go_ret
  exact ⟨ret_int (by rw [join4 b0 b1 b2 b3 h0a h0b h1a h1b h2a h2b h3a h3b]; exact HP.out), ((Below.refl _ _).alloc (Nat.le_refl _) _).trans ⟨rfl, rfl, rfl, Nat.le_refl _, fun _ _ => rfl⟩⟩

/-- The layout at block L: its count is n, its lookup table lies in block g: row r's position is P r. -/
structure Lay (w : World) (L g n : Nat) (P : Nat → Int) : Prop where
  cnt : w.cell? ⟨L, 4, none⟩ = some (.int .i64 n)
  look : w.cell? ⟨L, 6, none⟩ = some (.slice (some ⟨g, 0, none⟩) (16 * n) (16 * n))
  lo : ∀ r, r < n → 0 ≤ P r
  hi : ∀ r, r < n → P r < 4294967296
  b0 : ∀ r, r < n → w.cell? ⟨g, 16 * r, none⟩ = some (.int .u8 (P r / 16777216))
  b1 : ∀ r, r < n → w.cell? ⟨g, 16 * r + 1, none⟩ = some (.int .u8 (P r / 65536 % 256))
  b2 : ∀ r, r < n → w.cell? ⟨g, 16 * r + 2, none⟩ = some (.int .u8 (P r / 256 % 256))
  b3 : ∀ r, r < n → w.cell? ⟨g, 16 * r + 3, none⟩ = some (.int .u8 (P r % 256))

theorem cell_kept {w w' : World} {a : Addr} {v : Value} (hb : Below w.heap.size w w') (h : w.cell? a = some v) : w'.cell? a = some v := by
  rw [hb.cell (World.block_lt_of_cell? w _ h)]; exact h
theorem Lay.kept {w w' : World} {L g n : Nat} {P : Nat → Int} (h : Lay w L g n P) (hb : Below w.heap.size w w') : Lay w' L g n P :=
  ⟨cell_kept hb h.cnt, cell_kept hb h.look, h.lo, h.hi, fun r hr => cell_kept hb (h.b0 r hr), fun r hr => cell_kept hb (h.b1 r hr), fun r hr => cell_kept hb (h.b2 r hr), fun r hr => cell_kept hb (h.b3 r hr)⟩

theorem get_lay (L g n : Nat) (P : Nat → Int) (w : World) (hL : Lay w L g n P) (r len cap : Nat) (hr : r < n) (hlen : 4 ≤ len) :
   Calls Yba.prog 16 #[.agg #[], .slice (some ⟨g, 16 * r, none⟩) len cap] w fun e w' => e = .returned (.int .u32 (P r)) ∧ Below w.heap.size w w' :=
  get_calls g (16 * r) len cap (P r) w (hL.lo r hr) (hL.hi r hr) hlen (hL.b0 r hr) (hL.b1 r hr) (hL.b2 r hr) (hL.b3 r hr)

set_option maxHeartbeats 400000 in
/-- The closure that rowOf hands to sort.Search: 'is the position of row r at least t?' -/
theorem clos_calls (L g n bl bp r : Nat) (P : Nat → Int) (t : Int) (w : World) (hL : Lay w L g n P) (hn : n ≤ 1024) (hr : r < n)
    (cl : w.cell? ⟨bl, 0, none⟩ = some (.pointer (some ⟨L, 0, none⟩))) (cp : w.cell? ⟨bp, 0, none⟩ = some (.int .u32 t)) :
    Calls Yba.prog 15 #[.int .i64 r, .pointer (some ⟨bl, 0, none⟩), .pointer (some ⟨bp, 0, none⟩)] w fun e w' => e = .returned (.bool (decide (t ≤ P r))) ∧ Below w.heap.size w w' := by
  have hcl : ∀ d os, (grow (redrawn w d) os).cell? ⟨bl, 0, none⟩ = some (.pointer (some ⟨L, 0, none⟩)) := fun d os => cell_regrown cl d os
  have hcp : ∀ d os, (grow (redrawn w d) os).cell? ⟨bp, 0, none⟩ = some (.int .u32 t) := fun d os => cell_regrown cp d os
  have hck : ∀ d os, (grow (redrawn w d) os).cell? ⟨L, 6, none⟩ = some (.slice (some ⟨g, 0, none⟩) (16 * n) (16 * n)) := fun d os => cell_regrown hL.look d os
  have hcall : ∀ d os len cap, 4 ≤ len → Calls Yba.prog 16 #[.agg #[], .slice (some ⟨g, 16 * r, none⟩) len cap] (grow (redrawn w d) os) fun e w'' => e = .returned (.int .u32 (P r)) ∧ ∃ p : Regrown, w'' = grow (redrawn w p.d) p.os :=
    fun d os len cap h => Calls.regrown_of (get_lay L g n P _ (hL.kept (below_regrown w d os)) r len cap hr h)
  have hw1 : IntKind.i64.wrap (16 * (r : Int)) = 16 * (r : Int) := by rw [IntKind.wrap_i64]; omega
  have htn : (16 * (r : Int)).toNat = 16 * r := by omega
  have h16 : 16 * (r : Int) ≤ 16 * (n : Int) := by omega
  have h160 : 0 ≤ 16 * (r : Int) := by omega
  have hne : ¬ 16 * n = 16 * r := by omega
  have hrn : r ≤ n := by omega
  go_enter Yba.func15, Yba.ntmps15
  go_wp2_with fail
  refine wp_region_quiet_below (by kernel_rfl) (by kernel_rfl) ?_
  have hlen : 4 ≤ 16 * n - 16 * r := by omega
  repeat (quiet_step (exact hcall _ _ _ _ hlen))
  refine wpQuiet_nil ?_
  intro _ hw'
  obtain ⟨⟨dq, osq⟩, hw''⟩ := hw'
  subst hw''
  go_wp2_with fail
  go_ret
  exact ⟨rfl, below_regrown w dq osq⟩

def closVal (bl bp : Nat) : Value := .func (.func 15) #[] #[.pointer (some ⟨bl, 0, none⟩), .pointer (some ⟨bp, 0, none⟩)]
end Go.Proofs.Ybulkcggk.LookB
