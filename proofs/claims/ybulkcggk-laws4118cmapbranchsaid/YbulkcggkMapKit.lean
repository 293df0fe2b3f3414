import Derived.Test.YbulkcggkRows
import Derived.WalkKit
import Derived.ProofKit
import Derived.OpenShut
import Derived.Below
import Derived.DeepKeys5
import Derived.Maps.OwnSet
import Derived.Maps.OwnOps
import Derived.Deep.MidRow
import Derived.Deep.WholeRow
import Derived.Deep.QuietTactic
import Derived.BigQuiet
namespace Go.Proofs.Ybulkcggk.MapB
open Go.ChangeShapes Go.WideShapes Go.ChangeAt Go.RowKit Go.Maps

def idCells (k : Int) : List Value := .int .u8 k :: (List.replicate 31 (.int .u8 0) ++ [.int .u8 1])
def idArr (k : Int) : Array Value := (idCells k).toArray
def idVal (k : Int) : Value := .agg (idArr k)
theorem idArr_size (k : Int) : (idArr k).size = 33 := by simp [idArr, idCells]
theorem idArr_one (k : Int) : (idArr k).all (·.oneCell') = true := by
  simp [idArr, idCells, Value.oneCell']
theorem size40 : (Yba.prog.info? 40).map (·.size) = some 33 := by kernel_rfl

theorem heap_last (w : World) (o : Obj) : (w.alloc o).heap[w.heap.size]? = some o := heap_alloc_last w o
theorem ld40 (w : World) (b : Nat) (c : Array Value) (hb : b = w.heap.size) (hc : c.size = 33) :
    (Instr.loadAt 40 (.pointer (some ⟨b, 0, none⟩))).run Yba.prog (w.alloc (.cells c 40)) = .ok (.agg c) (w.alloc (.cells c 40)) := by
  subst hb
  simp only [Instr.loadAt, Instr.sureAddr, Sem.run_bind, Sem.run_pure, Result.andThen]
  exact run_loadVar_row _ _ 40 40 c (0, 0) _ (heap_alloc_last w _) Yba.underlying40 rfl (by rw [hc]; exact size40)
theorem st40 (w : World) (b : Nat) (c c' : Array Value) (hb : b = w.heap.size) (hc : c.size = 33) (hc' : c'.size = 33) (h1 : c'.all (·.oneCell') = true) :
    (Instr.storeAt 40 (.pointer (some ⟨b, 0, none⟩)) (.agg c')).run Yba.prog (w.alloc (.cells c 40)) = .ok () (w.alloc (.cells c' 40)) := by
  subst hb
  exact run_storeAt_new w 40 c c' (by rw [hc']; exact size40) (by rw [hc, hc']) h1
theorem setRow_under (w : World) (c c' : Array Value) (t : TypeId) (o : Obj) : ((w.alloc (.cells c t)).alloc o).setRow w.heap.size c' = (w.alloc (.cells c' t)).alloc o := by
  simp only [World.setRow, World.alloc]
  congr 1
  apply Array.ext_getElem?
  intro i
  rw [Array.getElem?_modify]
  by_cases h : w.heap.size = i
  · subst h
    simp [Array.getElem?_push]
  · have h' : ¬ i = w.heap.size := fun e => h e.symm
    simp [h, h', Array.getElem?_push]
theorem heap_under (w : World) (o o' : Obj) : ((w.alloc o).alloc o').heap[w.heap.size]? = some o := by
  show ((w.heap.push o).push o')[w.heap.size]? = some o
  simp [Array.getElem?_push]
theorem st40u (w : World) (b : Nat) (c c' : Array Value) (o : Obj) (hb : b = w.heap.size) (hc : c.size = 33) (hc' : c'.size = 33) (h1 : c'.all (·.oneCell') = true) :
    (Instr.storeAt 40 (.pointer (some ⟨b, 0, none⟩)) (.agg c')).run Yba.prog ((w.alloc (.cells c 40)).alloc o) = .ok () ((w.alloc (.cells c' 40)).alloc o) := by
  subst hb
  simp only [Instr.storeAt, Instr.sureAddr, Sem.run_bind, Sem.run_pure, Result.andThen]
  rw [run_storeVar_row _ _ 40 40 c c' (heap_under w _ _) (by rw [hc']; exact size40) (by rw [hc, hc']) h1, setRow_under]
theorem ldv40u (w : World) (b : Nat) (c : Array Value) (o : Obj) (hb : b = w.heap.size) (hc : c.size = 33) :
    (loadVar 40 ⟨b, 0, none⟩).run Yba.prog ((w.alloc (.cells c 40)).alloc o) = .ok (.agg c) ((w.alloc (.cells c 40)).alloc o) := by
  subst hb
  exact run_loadVar_row _ _ 40 40 c (0, 0) _ (heap_under w _ _) Yba.underlying40 rfl (by rw [hc]; exact size40)


theorem wp_st40 (dst : Option Tmp) (ty : TypeId) (pos : String) (aft : Array Edge) (gd : Option (Nat × Bool)) (x y : Operand) (a : Act) (w : World) (c : Array Value) (K : Act → World → Prop) (Q : Exit → Act → World → Prop)
    (hx : a.eval x = .pointer (some ⟨w.heap.size, 0, none⟩)) (hc : c.size = 33) (hy : a.eval y = .agg (a.eval y).cells) (hs : (a.eval y).cells.size = 33) (h1 : (a.eval y).cells.all (·.oneCell') = true) :
    Oper.wp Yba.prog ⟨dst, .store 40 x y, ty, pos, aft, gd⟩ a (w.alloc (.cells c 40)) K Q = K (a.put dst undef) (w.alloc (.cells (a.eval y).cells 40)) := by
  show Oper.upon Yba.prog _ a K Q ((do Instr.storeAt 40 (a.eval x) (a.eval y); pure Next.skip : Sem Next).run Yba.prog _) = _
  generalize a.eval y = v at *
  generalize v.cells = c' at *
  subst hy
  rw [hx]
  simp only [Sem.run_bind, st40 w _ c _ rfl hc hs h1, Result.andThen_ok, Sem.run_pure, Oper.upon_skip]
theorem wp_st40u (dst : Option Tmp) (ty : TypeId) (pos : String) (aft : Array Edge) (gd : Option (Nat × Bool)) (x y : Operand) (a : Act) (w : World) (c : Array Value) (o : Obj) (K : Act → World → Prop) (Q : Exit → Act → World → Prop)
    (hx : a.eval x = .pointer (some ⟨w.heap.size, 0, none⟩)) (hc : c.size = 33) (hy : a.eval y = .agg (a.eval y).cells) (hs : (a.eval y).cells.size = 33) (h1 : (a.eval y).cells.all (·.oneCell') = true) :
    Oper.wp Yba.prog ⟨dst, .store 40 x y, ty, pos, aft, gd⟩ a ((w.alloc (.cells c 40)).alloc o) K Q = K (a.put dst undef) ((w.alloc (.cells (a.eval y).cells 40)).alloc o) := by
  show Oper.upon Yba.prog _ a K Q ((do Instr.storeAt 40 (a.eval x) (a.eval y); pure Next.skip : Sem Next).run Yba.prog _) = _
  generalize a.eval y = v at *
  generalize v.cells = c' at *
  subst hy
  rw [hx]
  simp only [Sem.run_bind, st40u w _ c _ o rfl hc hs h1, Result.andThen_ok, Sem.run_pure, Oper.upon_skip]
theorem wp_ld40 (dst : Option Tmp) (ty : TypeId) (pos : String) (aft : Array Edge) (gd : Option (Nat × Bool)) (x : Operand) (a : Act) (w : World) (c : Array Value) (K : Act → World → Prop) (Q : Exit → Act → World → Prop)
    (hx : a.eval x = .pointer (some ⟨w.heap.size, 0, none⟩)) (hc : c.size = 33) :
    Oper.wp Yba.prog ⟨dst, .load 40 x, ty, pos, aft, gd⟩ a (w.alloc (.cells c 40)) K Q = K (a.put dst (.agg c)) (w.alloc (.cells c 40)) := by
  show Oper.upon Yba.prog _ a K Q ((do pure (Next.value (← Instr.loadAt 40 (a.eval x))) : Sem Next).run Yba.prog _) = _
  rw [hx]
  simp only [Sem.run_bind, ld40 w _ c rfl hc, Result.andThen_ok, Sem.run_pure, Oper.upon_value]

theorem q_ld40 (dst : Option Tmp) (ty : TypeId) (pos : String) (aft : Array Edge) (gd : Option (Nat × Bool)) (x : Operand) (a : Act) (w : World) (c : Array Value) (K : Act → Prop)
    (hx : a.eval x = .pointer (some ⟨w.heap.size, 0, none⟩)) (hc : c.size = 33) :
    Oper.quiet Yba.prog ⟨dst, .load 40 x, ty, pos, aft, gd⟩ a (fun w' => ∃ n, w' = (w.alloc (.cells c 40)).drewN n) K = K (a.put dst (.agg c)) := by
  have hrun : ∀ n, (execOp a.eval ⟨dst, .load 40 x, ty, pos, aft, gd⟩).run Yba.prog ((w.alloc (.cells c 40)).drewN n) = .ok (.value (.agg c)) ((w.alloc (.cells c 40)).drewN n) := by
    intro n
    show ((do pure (Next.value (← Instr.loadAt 40 (a.eval x))) : Sem Next).run Yba.prog _) = _
    rw [hx]
    simp only [Instr.loadAt, Instr.sureAddr, Sem.run_bind, Sem.run_pure, Result.andThen]
    rw [run_loadVar_row _ _ 40 40 c (0, 0) _ (show ((w.alloc (.cells c 40)).drewN n).heap[w.heap.size]? = _ from heap_alloc_last w _) Yba.underlying40 rfl (by rw [hc]; exact size40)]
  unfold Oper.quiet Oper.quietAt
  apply propext
  constructor
  · rintro ⟨v, h, hk⟩
    have h0 := h _ ⟨0, rfl⟩
    rw [hrun 0] at h0
    obtain ⟨_, rfl⟩ := h0
    exact hk
  · intro hk
    refine ⟨.agg c, ?_, hk⟩
    rintro _ ⟨n, rfl⟩
    rw [hrun n]
    exact ⟨rfl, rfl⟩

attribute [local go_sem ↓] wp_st40 wp_st40u wp_ld40 q_ld40
attribute [local go_sem] Value.oneCell' idArr_size idArr_one
set_option maxHeartbeats 400000 in
theorem cid_calls (k : Int) (w : World) :
   Calls Yba.prog 10 #[.int .u8 k] w fun e w' => e = .returned (idVal k) ∧ ∃ o1 o2, w' = (w.alloc (.cells o1 40)).alloc (.cells o2 40) := by
  go_enter Yba.func10, Yba.ntmps10
  go_wp2
  refine bodyPost_ret (v := idVal k) ?_ rfl ⟨rfl, _, _, rfl⟩
  rw [results_cell_row Yba.results10 _ _ w.heap.size 40 _ (0, 0) _ rfl (heap_under _ _ _) Yba.underlying40 rfl (size40.trans rfl)]
  rfl

theorem laidOut : laidOutB Yba.prog = true := by kernel_rfl
theorem keyTy : Yba.prog.keyType 40 = true := by kernel_rfl
theorem klaw : Keyed Yba.prog 40 := Keyed.of_law (deep_law_gate laidOut (by decide +kernel) (by decide +kernel) keyTy (by kernel_rfl))
def idBytes (k : Int) : List UInt8 := UInt8.ofNat k.toNat :: (List.replicate 31 0 ++ [1])
def idLit (k : Int) : Lit := .string (idBytes k)
def isStr : Option Lit → List UInt8 → Bool
  | some (.string l), m => l == m
  | _, _ => false
theorem isStr_eq {o : Option Lit} {m : List UInt8} (h : isStr o m = true) : o = some (.string m) := by
  unfold isStr at h
  split at h
  · rw [eq_of_beq h]
  · cases h
theorem keys_all : (List.range 256).all (fun n => isStr (keyOf Yba.prog 40 (idVal (n : Int))) (idBytes (n : Int))) = true := by kernel_rfl
theorem key_id (k : Int) (h0 : 0 ≤ k) (h1 : k < 256) : keyOf Yba.prog 40 (.agg (idArr k)) = some (idLit k) := by
  obtain ⟨n, rfl⟩ := Int.eq_ofNat_of_zero_le h0
  exact isStr_eq (List.all_eq_true.1 keys_all n (List.mem_range.2 (by omega)))
theorem lit_inj (a b : Int) (a0 : 0 ≤ a) (a1 : a < 256) (b0 : 0 ≤ b) (b1 : b < 256) (h : idLit a = idLit b) : a = b := by
  have ha := key_id a a0 a1
  have hb := key_id b b0 b1
  rw [← h] at hb
  have := klaw.inj ha hb
  simp [idArr, idCells] at this
  exact this
theorem lit_key (a : Int) (a0 : 0 ≤ a) (a1 : a < 256) : WideAt.IsKeyLit (idLit a) := klaw.key (key_id a a0 a1)

theorem zero3 (w : World) : (zeroValue 3).run Yba.prog w = .ok (.int .i64 0) w := Yba.zeroValue3 w

set_option maxHeartbeats 400000 in
/-- (*Bitmap).findAt in a Bitmap that holds its entries in a map. -/
theorem findAt_map (bb B m : Nat) (q i : Int) (D : DataW Unit) (w : World) (q0 : 0 ≤ q) (q1 : q < 256)
    (hown : w.ownsMap Yba.prog 40 (plainElem Yba.prog 3) B m D)
    (c40 : w.cell? ⟨bb, 40, none⟩ = some (.map (some B))) (c41 : w.cell? ⟨bb, 41, none⟩ = some (.pointer none)) :
    Calls Yba.prog 11 #[.pointer (some ⟨bb, 0, none⟩), .agg (idArr q), .int .i64 i] w fun e w' =>
      ∃ c : Int, e = .returned (.tuple #[.int .i64 c, .bool (Maps.has D (idLit q))]) ∧ D.atKey (idLit q) (.lit (.int .i64 0)) = .lit (.int .i64 c) ∧ Below w.heap.size w w' := by
  have hown1 := hown.alloc (.cells (idArr q) 40)
  have hlook : ∀ n, ∃ c, (Instr.lookup 36 (.map (some B)) (.agg (idArr q)) true).run Yba.prog ((w.alloc (.cells (idArr q) 40)).drewN n) = .ok (.tuple #[.int .i64 c, .bool (Maps.has D (idLit q))]) ((w.alloc (.cells (idArr q) 40)).drewN n) ∧ D.atKey (idLit q) (.lit (.int .i64 0)) = .lit (.int .i64 c) := by
    intro n
    have hown2 : ((w.alloc (.cells (idArr q) 40)).drewN n).ownsMap Yba.prog 40 (plainElem Yba.prog 3) B m D := hown1
    obtain ⟨v, ps, hrun, hv⟩ := hown2.look_ok klaw Yba.underlying36 (zero3 _) (plainElem_int Yba.underlying3 (by decide)) (key_id q q0 q1)
    obtain ⟨c, rfl, hc, _⟩ := plainElem_int_inv Yba.underlying3 hv
    simp only [Prod.mk.injEq] at hc
    exact ⟨c, hrun, hc.1⟩
  obtain ⟨c, _, hc⟩ := hlook 0
  have hl : ∀ n, (Instr.lookup 36 (.map (some B)) (.agg (idArr q)) true).run Yba.prog ((w.alloc (.cells (idArr q) 40)).drewN n) = .ok (.tuple #[.int .i64 c, .bool (Maps.has D (idLit q))]) ((w.alloc (.cells (idArr q) 40)).drewN n) := by
    intro n
    obtain ⟨c', h1, h2⟩ := hlook n
    rw [hc] at h2
    simp only [DataW.lit.injEq, Lit.int.injEq, true_and] at h2
    rw [h1, h2]
  have hb40 : bb < w.heap.size := World.block_lt_of_cell? w _ c40
  have HC : Hid (D.atKey (idLit q) (.lit (.int .i64 0)) = .lit (.int .i64 c)) := hc
  clear hc hlook hown1
  go_enter Yba.func11, Yba.ntmps11
  go_wp2_with fail
  go_quiet (fail)
  go_wp2_with fail
  go_ret2
  exact ⟨c, rfl, HC.out, ((Below.refl _ _).alloc (Nat.le_refl _) _).trans ⟨rfl, rfl, rfl, Nat.le_refl _, fun _ _ => rfl⟩⟩
end Go.Proofs.Ybulkcggk.MapB
