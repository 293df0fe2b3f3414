import Derived.Test.YbulkcgioFmtRows
import Derived.WalkKit
import Derived.ProofKit
import Derived.OpenShut
import Derived.Below
import Derived.Deep.QuietTactic
import Derived.BigQuiet
import Derived.Deep.RegionWith
import Derived.Laws.IdiomCopy
import Derived.DataElems
import Derived.WalkSpells
namespace Go.Proofs.YbulkcgioFmt.Kit
set_option linter.unusedSimpArgs false
set_option linter.unusedVariables false
open Go.ChangeShapes Go.WideShapes Go.ChangeAt Go.RowKit

theorem size5 : (Ybaf.prog.info? 5).map (·.size) = some 1 := by kernel_rfl
def by8 (z : List Int) (o k : Nat) : List Value := (List.range k).map fun j => Value.int .u8 (z.getD (o + j) 0)
theorem by8_len (z : List Int) (o k : Nat) : (by8 z o k).length = k := by simp [by8]
theorem by8_get (z : List Int) (o k j : Nat) (h : j < k) : (by8 z o k)[j]? = some (.int .u8 (z.getD (o + j) 0)) := by simp [by8, h]
theorem by8_one (z : List Int) (o k : Nat) : ∀ v ∈ by8 z o k, v.oneCell' = true := by
  intro v hv; simp [by8] at hv; obtain ⟨j, _, rfl⟩ := hv; rfl

/-- What a read of k bytes leaves: the bytes of z from ii on in dest; all else as it was but the reader's block R. -/
structure Rd (w w' : World) (R gd od k ii : Nat) (z : List Int) : Prop where
  dest : ∀ j, j < k → w'.cell? ⟨gd, od + j, none⟩ = some (.int .u8 (z.getD (ii + j) 0))
  other : ∀ x : Addr, x.block ≠ R → (x.block ≠ gd ∨ x.off < od ∨ od + k ≤ x.off) → w'.cell? x = w.cell? x
  frozen : ∀ x : Addr, w'.frozen? x = w.frozen? x
  size : w'.heap.size = w.heap.size
  below : ∀ bb, bb ≤ R → bb ≤ gd → Below bb w w'

theorem below_setCells {B b : Nat} {a : World} (hb : B ≤ b) : ∀ (vs : List Value) (o : Nat) (w : World), Below B a w → Below B a (w.setCells b o vs)
  | [], _, _, h => h
  | v :: r, o, w, h => below_setCells hb r (o + 1) _ (h.setCell (p := ⟨b, o, none⟩) hb v)
theorem size_setCells (b : Nat) : ∀ (vs : List Value) (o : Nat) (w : World), (w.setCells b o vs).heap.size = w.heap.size
  | [], _, _ => rfl
  | v :: r, o, w => by rw [World.setCells, size_setCells b r]; simp

def rdW (w : World) (R gd od k ii nq : Nat) (z : List Int) : World :=
  ((((w.drewN nq).setCell ⟨R, 2, none⟩ (.int .i64 (-1))).setCells gd od (by8 z ii k)).setCell ⟨R, 1, none⟩ (.int .i64 ((ii : Int) + k))).drew
theorem rd_of (w : World) (R gd od k ii nq : Nat) (z : List Int) (s0 : Value) (pr : Int) (hne : gd ≠ R) (hd : ∀ j, j < k → (w.cell? ⟨gd, od + j, none⟩).isSome = true)
    (r0 : w.cell? ⟨R, 0, none⟩ = some s0) (r1 : w.cell? ⟨R, 1, none⟩ = some (.int .i64 ii)) (r2 : w.cell? ⟨R, 2, none⟩ = some (.int .i64 pr)) :
    (rdW w R gd od k ii nq z).cell? ⟨R, 0, none⟩ = some s0 ∧ (rdW w R gd od k ii nq z).cell? ⟨R, 1, none⟩ = some (.int .i64 ((ii + k : Nat) : Int)) ∧ (rdW w R gd od k ii nq z).cell? ⟨R, 2, none⟩ = some (.int .i64 (-1)) ∧ Rd w (rdW w R gd od k ii nq z) R gd od k ii z := by
  have hout : ∀ i (v : World), (v.setCells gd od (by8 z ii k)).cell? ⟨R, i, none⟩ = v.cell? ⟨R, i, none⟩ := fun i v => World.cell?_setCells_out gd _ _ _ _ (fun h1 h2 => absurd h1.symm hne)
  have e1 : ((((w.drewN nq).setCell ⟨R, 2, none⟩ (.int .i64 (-1))).setCells gd od (by8 z ii k))).cell? ⟨R, 1, none⟩ = some (.int .i64 ii) := by
    rw [hout, World.cell?_setCell_other _ _ _ _ (by simp)]; exact r1
  refine ⟨?_, ?_, ?_, ?_, ?_, ?_, ?_, ?_⟩
  · show (World.setCell _ _ _).cell? _ = _
    rw [World.cell?_setCell_other _ _ _ _ (by simp), hout, World.cell?_setCell_other _ _ _ _ (by simp)]; exact r0
  · show (World.setCell _ _ _).cell? _ = _
    rw [World.cell?_setCell_same _ _ _ e1]; simp
  · show (World.setCell _ _ _).cell? _ = _
    rw [World.cell?_setCell_other _ _ _ _ (by simp), hout, World.cell?_setCell_same (w := w.drewN nq) _ _ r2]
  · intro j hj
    show (World.setCell _ _ _).cell? _ = _
    rw [World.cell?_setCell_other _ _ _ _ (by simp [Ne.symm hne]), World.cell?_setCells_in gd (by8 z ii k) od _ (fun i hi => by rw [World.cell?_setCell_other _ _ _ _ (by simp [Ne.symm hne])]; exact hd i (by rw [by8_len] at hi; exact hi)) j (by rw [by8_len]; exact hj)]
    have h1 := by8_get z ii k j hj
    have h2 : (by8 z ii k)[j]? = some ((by8 z ii k)[j]'(by rw [by8_len]; exact hj)) := List.getElem?_eq_getElem _
    rw [h2] at h1
    exact h1
  · intro x hx ho
    show (World.setCell _ _ _).cell? _ = _
    rw [World.cell?_setCell_other _ _ _ _ (fun h => hx (by rw [← h])), World.cell?_setCells_out gd _ _ _ _ (fun h1 h2 => by rw [by8_len]; omega), World.cell?_setCell_other _ _ _ _ (fun h => hx (by rw [← h]))]
    rfl
  · intro x
    show (World.setCell _ _ _).frozen? _ = _
    rw [World.frozen?_setCell, World.frozen?_setCells, World.frozen?_setCell]; rfl
  · show (World.setCell _ _ _).heap.size = _
    simp [size_setCells]
  · intro bb h1 h2
    have h0 : Below bb w (w.drewN nq) := ⟨rfl, rfl, rfl, Nat.le_refl _, fun _ _ => rfl⟩
    exact ((below_setCells h2 _ _ _ (h0.setCell (p := ⟨R, 2, none⟩) h1 _)).setCell (p := ⟨R, 1, none⟩) h1 _).drew

theorem add_block (x : Addr) (j : Nat) : (x.add j).block = x.block := by unfold Addr.add; split <;> rfl
theorem setCells_drew (b : Nat) : ∀ (vs : List Value) (o : Nat) (w : World), w.drew.setCells b o vs = (w.setCells b o vs).drew
  | [], _, _ => rfl
  | v :: r, o, w => by rw [World.setCells, World.setCells, ← setCells_drew b r]; rfl
theorem hide' {p : Prop} (h : p) : Hid p := h

set_option maxHeartbeats 1000000 in
/-- (*bytes.Reader).Read where something is left. -/
theorem bread_some (R gd od l c ii n cap0 k : Nat) (x : Addr) (z : List Int) (pr : Int) (w : World) (hin : ii < n) (hnc : n ≤ cap0) (hn : n ≤ 16384) (hl : 0 < l) (hl2 : l ≤ 1000000) (hk : k = Nat.min (n - ii) l) (hne : gd ≠ R) (hxR : x.block ≠ R)
    (r0 : w.cell? ⟨R, 0, none⟩ = some (.slice (some x) n cap0)) (r1 : w.cell? ⟨R, 1, none⟩ = some (.int .i64 ii)) (r2 : w.cell? ⟨R, 2, none⟩ = some (.int .i64 pr)) (fR : ∀ i, w.frozen? ⟨R, i, none⟩ = false)
    (hd : ∀ j, j < l → (w.cell? ⟨gd, od + j, none⟩).isSome = true) (fD : ∀ i, w.frozen? ⟨gd, i, none⟩ = false)
    (hs : ∀ j, j < n → w.cell? (x.add j) = some (.int .u8 (z.getD j 0))) :
    Calls Ybaf.prog 37 #[.pointer (some ⟨R, 0, none⟩), .slice (some ⟨gd, od, none⟩) l c] w fun e w' =>
      e = .returned (.tuple #[.int .i64 k, .nilIface]) ∧ w'.cell? ⟨R, 0, none⟩ = some (.slice (some x) n cap0) ∧ w'.cell? ⟨R, 1, none⟩ = some (.int .i64 ((ii + k : Nat) : Int)) ∧ w'.cell? ⟨R, 2, none⟩ = some (.int .i64 (-1)) ∧ Rd w w' R gd od k ii z := by
  have hk1 : k ≤ n - ii := by rw [hk]; exact Nat.min_le_left _ _
  have hk2 : k ≤ l := by rw [hk]; exact Nat.min_le_right _ _
  have HRD : Hid (∀ nq, (rdW w R gd od k ii nq z).cell? ⟨R, 0, none⟩ = some (.slice (some x) n cap0) ∧ (rdW w R gd od k ii nq z).cell? ⟨R, 1, none⟩ = some (.int .i64 ((ii + k : Nat) : Int)) ∧ (rdW w R gd od k ii nq z).cell? ⟨R, 2, none⟩ = some (.int .i64 (-1)) ∧ Rd w (rdW w R gd od k ii nq z) R gd od k ii z) :=
    fun nq => rd_of w R gd od k ii nq z _ pr hne (fun j hj => hd j (by omega)) r0 r1 r2
  have HK : Hid (k = Nat.min (n - ii) l) := hk
  clear hk
  go_enter Ybaf.func37, Ybaf.ntmps37
  go_wp2_with fail
  go_quiet (fail)
  go_wp2_with fail
  obtain ⟨W, hW⟩ : ∃ W, W = (w.drewN nq).setCell ⟨R, 2, none⟩ (.int .i64 (-1)) := ⟨_, rfl⟩
  rw [← hW]
  have r0' : W.cell? ⟨R, 0, none⟩ = some (.slice (some x) n cap0) := by rw [hW, World.cell?_setCell_other _ _ _ _ (by simp)]; exact r0
  have r1' : W.cell? ⟨R, 1, none⟩ = some (.int .i64 ii) := by rw [hW, World.cell?_setCell_other _ _ _ _ (by simp)]; exact r1
  have fR' : ∀ i, W.frozen? ⟨R, i, none⟩ = false := fun i => by rw [hW, World.frozen?_setCell]; exact fR i
  have hcopy : ∀ ty, (Builtin.copy_ #[22, 22] ty #[.slice (some ⟨gd, od, none⟩) l c, .slice (some (x.add ii)) (n - ii) (cap0 - ii)]).run Ybaf.prog W.drew = .ok (.int .i64 k) (W.setCells gd od (by8 z ii k)).drew := by
    intro ty
    have hl1 := by8_len z ii k
    have h := run_copy_cells (P := Ybaf.prog) W.drew 22 22 ty 5 gd od l c (x.add ii) (n - ii) (cap0 - ii) (by8 z ii k) Ybaf.underlying22 size5 (hl1.trans HK.out)
      (fun j v hv => by
        have hj : j < k := by rw [← hl1]; exact (List.getElem?_eq_some_iff.1 hv).1
        rw [by8_get _ _ _ _ hj] at hv
        cases hv
        show W.cell? _ = _
        rw [Addr.add_add, hW, World.cell?_setCell_other _ _ _ _ (fun h => hxR (by rw [← add_block x (ii + j), ← h]))]
        exact hs (ii + j) (by omega))
      (fun j hj => by
        show (W.cell? _).isSome = true
        rw [hW, World.cell?_setCell_other _ _ _ _ (by simp [Ne.symm hne])]
        exact hd j (by omega))
      (fun j hj => by
        show W.frozen? _ = false
        rw [hW, World.frozen?_setCell]
        exact fD _)
      (by8_one _ _ _)
    rw [hl1] at h
    exact h.trans (by rw [setCells_drew]; rfl)
  have c1 : (W.setCells gd od (by8 z ii k)).cell? ⟨R, 1, none⟩ = some (.int .i64 ii) := by rw [World.cell?_setCells_out gd _ _ _ _ (fun h1 h2 => absurd h1.symm hne)]; exact r1'
  have f1 : (W.setCells gd od (by8 z ii k)).frozen? ⟨R, 1, none⟩ = false := by rw [World.frozen?_setCells]; exact fR' 1
  have HW : Hid (W = (w.drewN nq).setCell ⟨R, 2, none⟩ (.int .i64 (-1))) := hW
  have hci : ¬ cap0 = ii := by omega
  have hcin : ii ≤ n := by omega
  clear hW r0 r1 r2 fR hd hs fD
  go_region
  go_wp2_with fail
  go_ret2
  have h := HRD.out nq
  unfold rdW at h
  rw [← HW.out] at h
  exact ⟨rfl, h⟩

set_option maxHeartbeats 1000000 in
/-- (*bytes.Reader).Read at the stream's end. -/
theorem bread_eof (R n cap0 ii : Nat) (a : Option Addr) (dst ev : Value) (w : World) (hin : n ≤ ii) (hn : n ≤ 16384) (hii : ii ≤ 16384)
    (r0 : w.cell? ⟨R, 0, none⟩ = some (.slice a n cap0)) (r1 : w.cell? ⟨R, 1, none⟩ = some (.int .i64 ii)) (he : w.cell? ⟨1, 0, none⟩ = some ev) :
    Calls Ybaf.prog 37 #[.pointer (some ⟨R, 0, none⟩), dst] w fun e w' =>
      e = .returned (.tuple #[.int .i64 0, ev]) ∧ ∃ q, w' = w.drewN q := by
  have hin' : (n : Int) ≤ (ii : Int) := by omega
  go_enter Ybaf.func37, Ybaf.ntmps37
  go_wp2_with fail
  go_quiet (fail)
  go_wp2_with fail
  go_quiet (fail)
  go_wp2_with fail
  go_ret2
  exact ⟨rfl, _, World.drewN_drewN _ _ _⟩

set_option maxHeartbeats 1000000 in
/-- (*bufio.Reader).readErr. -/
theorem readErr_calls (B : Nat) (ev : Value) (w : World) (h4 : w.cell? ⟨B, 4, none⟩ = some ev) (f4 : w.frozen? ⟨B, 4, none⟩ = false) :
    Calls Ybaf.prog 35 #[.pointer (some ⟨B, 0, none⟩)] w fun e w' => e = .returned ev ∧ w' = w.setCell ⟨B, 4, none⟩ .nilIface := by
  go_enter Ybaf.func35, Ybaf.ntmps35
  go_wp2_with fail
  go_ret
  exact ⟨rfl, rfl⟩

@[go_sem] theorem meth27 (x : Value) (w : World) : (method 199 27 x "Read").run Ybaf.prog w = .ok (37, x) w := by kernel_rfl
@[go_sem] theorem meth25 (x : Value) (w : World) : (method 199 25 x "Read").run Ybaf.prog w = .ok (32, x) w := by kernel_rfl

/-- The source: the bytes z in blocks below N. -/
def Src (w : World) (N n : Nat) (a : Option Addr) (z : List Int) : Prop := ∀ j, j < n → ∃ x : Addr, a = some x ∧ x.block < N ∧ w.cell? (x.add j) = some (.int .u8 (z.getD j 0))
theorem Src.kept {w w' : World} {N n : Nat} {a : Option Addr} {z : List Int} (h : Src w N n a z) (hb : Below N w w') : Src w' N n a z := fun j hj => by
  obtain ⟨x, h1, h2, h3⟩ := h j hj
  exact ⟨x, h1, h2, by rw [hb.cell (by rw [add_block]; exact h2)]; exact h3⟩

/-- The two readers and the buffer; what is buffered; where the source stands. -/
structure Raw (w : World) (N B R gb n cap0 : Nat) (a : Option Addr) (z : List Int) (rr ww ii : Nat) (lb ls pr : Int) : Prop where
  b0 : w.cell? ⟨B, 0, none⟩ = some (.slice (some ⟨gb, 0, none⟩) 4096 4096)
  b1 : w.cell? ⟨B, 1, none⟩ = some (.iface 27 (.pointer (some ⟨R, 0, none⟩)))
  b2 : w.cell? ⟨B, 2, none⟩ = some (.int .i64 rr)
  b3 : w.cell? ⟨B, 3, none⟩ = some (.int .i64 ww)
  b4 : w.cell? ⟨B, 4, none⟩ = some .nilIface
  b5 : w.cell? ⟨B, 5, none⟩ = some (.int .i64 lb)
  b6 : w.cell? ⟨B, 6, none⟩ = some (.int .i64 ls)
  r0 : w.cell? ⟨R, 0, none⟩ = some (.slice a n cap0)
  r1 : w.cell? ⟨R, 1, none⟩ = some (.int .i64 ii)
  r2 : w.cell? ⟨R, 2, none⟩ = some (.int .i64 pr)
  fB : ∀ i, w.frozen? ⟨B, i, none⟩ = false
  fR : ∀ i, w.frozen? ⟨R, i, none⟩ = false
  fG : ∀ i, w.frozen? ⟨gb, i, none⟩ = false
  room : ∀ j, j < 4096 → (w.cell? ⟨gb, j, none⟩).isSome = true
  src : Src w N n a z

/-- The blocks are four different new ones. -/
structure Apart (N B R gb gd : Nat) : Prop where
  nB : N ≤ B
  nR : N ≤ R
  nG : N ≤ gb
  nD : N ≤ gd
  BR : B ≠ R
  BG : B ≠ gb
  BD : B ≠ gd
  RG : R ≠ gb
  RD : R ≠ gd
  GD : gb ≠ gd

/-- What a read of k bytes of the buffered reader into dest leaves of all else. -/
structure Fr (w w' : World) (N B R gb gd od k : Nat) : Prop where
  other : ∀ x : Addr, x.block ≠ B → x.block ≠ R → x.block ≠ gb → (x.block ≠ gd ∨ x.off < od ∨ od + k ≤ x.off) → w'.cell? x = w.cell? x
  frozen : ∀ x : Addr, w'.frozen? x = w.frozen? x
  size : w'.heap.size = w.heap.size
  below : Below N w w'
theorem Fr.of_rd {w w' : World} {N B R gb gd od k ii : Nat} {z : List Int} (ha : Apart N B R gb gd) (h : Rd w w' R gd od k ii z) : Fr w w' N B R gb gd od k :=
  ⟨fun x _ h2 _ h4 => h.other x h2 h4, h.frozen, h.size, h.below N ha.nR ha.nD⟩
theorem Fr.of_rd' {w w' : World} {N B R gb gd od k kk ii : Nat} {z : List Int} (ha : Apart N B R gb gd) (h : Rd w w' R gb 0 kk ii z) : Fr w w' N B R gb gd od k :=
  ⟨fun x _ h2 h3 _ => h.other x h2 (.inl h3), h.frozen, h.size, h.below N ha.nR ha.nG⟩
theorem Fr.trans {a b c : World} {N B R gb gd od k : Nat} (h : Fr a b N B R gb gd od k) (h' : Fr b c N B R gb gd od k) : Fr a c N B R gb gd od k :=
  ⟨fun x h1 h2 h3 h4 => (h'.other x h1 h2 h3 h4).trans (h.other x h1 h2 h3 h4), fun x => (h'.frozen x).trans (h.frozen x), h'.size.trans h.size, h.below.trans h'.below⟩
theorem Fr.setB {a b : World} {N B R gb gd od k : Nat} (h : Fr a b N B R gb gd od k) (hN : N ≤ B) (i : Nat) (v : Value) : Fr a (b.setCell ⟨B, i, none⟩ v) N B R gb gd od k :=
  ⟨fun x h1 h2 h3 h4 => by rw [World.cell?_setCell_other _ _ _ _ (fun e => h1 (by rw [← e]))]; exact h.other x h1 h2 h3 h4, fun x => by rw [World.frozen?_setCell]; exact h.frozen x, by simp [h.size], h.below.setCell (p := ⟨B, i, none⟩) hN v⟩
theorem Fr.refl (w : World) (N B R gb gd od k q : Nat) : Fr w (w.drewN q) N B R gb gd od k := ⟨fun _ _ _ _ _ => rfl, fun _ => rfl, rfl, ⟨rfl, rfl, rfl, Nat.le_refl _, fun _ _ => rfl⟩⟩

theorem Raw.drewN {w : World} {N B R gb n cap0 : Nat} {a : Option Addr} {z : List Int} {rr ww ii : Nat} {lb ls pr : Int} (h : Raw w N B R gb n cap0 a z rr ww ii lb ls pr) (q : Nat) : Raw (w.drewN q) N B R gb n cap0 a z rr ww ii lb ls pr :=
  ⟨h.b0, h.b1, h.b2, h.b3, h.b4, h.b5, h.b6, h.r0, h.r1, h.r2, h.fB, h.fR, h.fG, h.room, h.src⟩

/-- What a read of k bytes leaves: the stream stands k further on. -/
def PostRead (w w' : World) (N B R gb n cap0 : Nat) (a : Option Addr) (z : List Int) (rr ww ii gd od k pos : Nat) : Prop :=
  (∃ lb ls pr, Raw w' N B R gb n cap0 a z rr ww ii lb ls pr) ∧ (∀ j, j < k → w'.cell? ⟨gd, od + j, none⟩ = some (.int .u8 (z.getD (pos + j) 0))) ∧ Fr w w' N B R gb gd od k

/-- The last writes go to the buffered reader's own block. -/
theorem post_of {w w2 F : World} {N B R gb n cap0 : Nat} {a : Option Addr} {z : List Int} {rr ww ii gd od k pos : Nat} {lb ls pr : Int} (ha : Apart N B R gb gd)
    (hB : ∀ x : Addr, x.block ≠ B → F.cell? x = w2.cell? x) (hf : ∀ x : Addr, F.frozen? x = w2.frozen? x) (hsz : F.heap.size = w2.heap.size) (hbel : Below N w2 F)
    (b0 : F.cell? ⟨B, 0, none⟩ = some (.slice (some ⟨gb, 0, none⟩) 4096 4096)) (b1 : F.cell? ⟨B, 1, none⟩ = some (.iface 27 (.pointer (some ⟨R, 0, none⟩)))) (b2 : F.cell? ⟨B, 2, none⟩ = some (.int .i64 rr)) (b3 : F.cell? ⟨B, 3, none⟩ = some (.int .i64 ww)) (b4 : F.cell? ⟨B, 4, none⟩ = some .nilIface) (b5 : F.cell? ⟨B, 5, none⟩ = some (.int .i64 lb)) (b6 : F.cell? ⟨B, 6, none⟩ = some (.int .i64 ls))
    (r0 : w2.cell? ⟨R, 0, none⟩ = some (.slice a n cap0)) (r1 : w2.cell? ⟨R, 1, none⟩ = some (.int .i64 ii)) (r2 : w2.cell? ⟨R, 2, none⟩ = some (.int .i64 pr))
    (fB : ∀ i, w2.frozen? ⟨B, i, none⟩ = false) (fR : ∀ i, w2.frozen? ⟨R, i, none⟩ = false) (fG : ∀ i, w2.frozen? ⟨gb, i, none⟩ = false) (room : ∀ j, j < 4096 → (w2.cell? ⟨gb, j, none⟩).isSome = true) (src : Src w2 N n a z)
    (hd : ∀ j, j < k → w2.cell? ⟨gd, od + j, none⟩ = some (.int .u8 (z.getD (pos + j) 0))) (hfr : Fr w w2 N B R gb gd od k) : PostRead w F N B R gb n cap0 a z rr ww ii gd od k pos := by
  refine ⟨⟨lb, ls, pr, ⟨b0, b1, b2, b3, b4, b5, b6, ?_, ?_, ?_, fun i => (hf _).trans (fB i), fun i => (hf _).trans (fR i), fun i => (hf _).trans (fG i), fun j hj => ?_, src.kept hbel⟩⟩, fun j hj => ?_, ⟨fun x h1 h2 h3 h4 => (hB x h1).trans (hfr.other x h1 h2 h3 h4), fun x => (hf x).trans (hfr.frozen x), hsz.trans hfr.size, hfr.below.trans hbel⟩⟩
  · rw [hB _ (Ne.symm ha.BR)]; exact r0
  · rw [hB _ (Ne.symm ha.BR)]; exact r1
  · rw [hB _ (Ne.symm ha.BR)]; exact r2
  · rw [hB _ (Ne.symm ha.BG)]; exact room j hj
  · rw [hB _ (Ne.symm ha.BD)]; exact hd j hj

set_option maxHeartbeats 1000000 in
/-- (*bufio.Reader).Read, nothing buffered, dest at least as great as the buffer, something left. -/
theorem bufread_direct (N B R gb gd od l c n cap0 ii k : Nat) (a : Option Addr) (z : List Int) (pr lb ls : Int) (rr : Nat) (w : World) (hin : ii < n) (hnc : n ≤ cap0) (hn : n ≤ 16384) (hl : 4096 ≤ l) (hl2 : l ≤ 1000000) (hk : k = Nat.min (n - ii) l)
    (ha : Apart N B R gb gd) (hz : ∀ j, 0 ≤ z.getD j 0 ∧ z.getD j 0 < 256) (hraw : Raw w N B R gb n cap0 a z rr rr ii lb ls pr) (hd : ∀ j, j < l → (w.cell? ⟨gd, od + j, none⟩).isSome = true) (fD : ∀ i, w.frozen? ⟨gd, i, none⟩ = false) :
    Calls Ybaf.prog 32 #[.pointer (some ⟨B, 0, none⟩), .slice (some ⟨gd, od, none⟩) l c] w fun e w' => e = .returned (.tuple #[.int .i64 k, .nilIface]) ∧ PostRead w w' N B R gb n cap0 a z rr rr (ii + k) gd od k ii := by
  have hl0 : ((l : Int) == 0) = false := by simp; omega
  have hl4 : (4096 : Int) ≤ (l : Int) := by omega
  have hk0 : 0 < k := by rw [hk, Nat.lt_min]; omega
  have hkl : k ≤ l := by rw [hk]; exact Nat.min_le_right _ _
  have HK : Hid (k = Nat.min (n - ii) l) := hk
  clear hk
  have HR : Hid (Raw w N B R gb n cap0 a z rr rr ii lb ls pr) := hraw
  have HD : Hid ((∀ j, j < l → (w.cell? ⟨gd, od + j, none⟩).isSome = true) ∧ (∀ i, w.frozen? ⟨gd, i, none⟩ = false)) := ⟨hd, fD⟩
  obtain ⟨b0, b1, b2, b3, b4, b5, b6, r0, r1, r2, fB, fR, fG, room, src⟩ := hraw
  clear room src fG fR r0 r1 r2 hd fD
  go_enter Ybaf.func32, Ybaf.ntmps32
  go_wp2_with fail
  go_quiet (fail)
  go_wp2_with fail
  obtain ⟨x, rfl, hxN, _⟩ := HR.out.src 0 (by omega)
  refine (bread_some R gd od l c ii n cap0 k x z pr (w.drewN nq) hin hnc hn (by omega) hl2 HK.out (Ne.symm ha.RD) (by have := ha.nR; omega) HR.out.r0 HR.out.r1 HR.out.r2 HR.out.fR HD.out.1 HD.out.2 (fun j hj => by obtain ⟨y, hy, _, h⟩ := HR.out.src j hj; cases hy; exact h)).mono ?_
  rintro e w2 ⟨rfl, r0, r1, r2, hrd⟩
  have B0 : w2.cell? ⟨B, 0, none⟩ = some (.slice (some ⟨gb, 0, none⟩) 4096 4096) := (hrd.other _ ha.BR (.inl ha.BD)).trans HR.out.b0
  have B1 : w2.cell? ⟨B, 1, none⟩ = some (.iface 27 (.pointer (some ⟨R, 0, none⟩))) := (hrd.other _ ha.BR (.inl ha.BD)).trans HR.out.b1
  have B2 : w2.cell? ⟨B, 2, none⟩ = some (.int .i64 rr) := (hrd.other _ ha.BR (.inl ha.BD)).trans HR.out.b2
  have B3 : w2.cell? ⟨B, 3, none⟩ = some (.int .i64 rr) := (hrd.other _ ha.BR (.inl ha.BD)).trans HR.out.b3
  have B4 : w2.cell? ⟨B, 4, none⟩ = some .nilIface := (hrd.other _ ha.BR (.inl ha.BD)).trans HR.out.b4
  have B5 : w2.cell? ⟨B, 5, none⟩ = some (.int .i64 lb) := (hrd.other _ ha.BR (.inl ha.BD)).trans HR.out.b5
  have B6 : w2.cell? ⟨B, 6, none⟩ = some (.int .i64 ls) := (hrd.other _ ha.BR (.inl ha.BD)).trans HR.out.b6
  have fB2 : ∀ i, w2.frozen? ⟨B, i, none⟩ = false := fun i => (hrd.frozen _).trans (HR.out.fB i)
  have hlast := hrd.dest (k - 1) (by omega)
  have hzl := hz (ii + (k - 1))
  obtain ⟨zl0, zl1⟩ := hzl
  generalize z.getD (ii + (k - 1)) 0 = zl at *
  have hlast2 : (w2.setCell ⟨B, 4, none⟩ .nilIface).cell? ⟨gd, od + (k - 1), none⟩ = some (.int .u8 zl) := by rw [World.cell?_setCell_other _ _ _ _ (by simp [ha.BD])]; exact hlast
  have HRD : Hid (Rd (w.drewN nq) w2 R gd od k ii z) := hrd
  have HA : Hid (Apart N B R gb gd) := ha
  have HB01 : Hid (w2.cell? ⟨R, 0, none⟩ = some (.slice (some x) n cap0) ∧ w2.cell? ⟨R, 1, none⟩ = some (.int .i64 ((ii + k : Nat) : Int)) ∧ w2.cell? ⟨R, 2, none⟩ = some (.int .i64 (-1))) := ⟨r0, r1, r2⟩
  clear hrd b0 b1 b2 b3 b4 b5 b6 fB hlast r0 r1 r2 hz ha
  go_wp2_with fail
  refine (readErr_calls B .nilIface _ (by simp [go_sem, B4, B5, B6]) (by simp [go_sem, fB2])).mono ?_
  rintro e w3 ⟨rfl, rfl⟩
  go_wp2_with fail
  go_ret2
  have hA := HA.out
  have hRD := HRD.out
  exact ⟨rfl, post_of (w2 := w2) (lb := zl) (ls := -1) (pr := -1) hA (by intro x hx; repeat rw [World.cell?_setCell_other _ _ _ _ (fun h => hx (by rw [← h]))]) (by intro x; simp) (by simp)
    (((((Below.refl N w2).setCell (p := ⟨B, 4, none⟩) hA.nB _).setCell (p := ⟨B, 5, none⟩) hA.nB _).setCell (p := ⟨B, 6, none⟩) hA.nB _).setCell (p := ⟨B, 4, none⟩) hA.nB _)
    (by simp [go_sem, B0, B1, B2, B3, B4, B5, B6]) (by simp [go_sem, B0, B1, B2, B3, B4, B5, B6]) (by simp [go_sem, B0, B1, B2, B3, B4, B5, B6]) (by simp [go_sem, B0, B1, B2, B3, B4, B5, B6]) (by simp [go_sem, B0, B1, B2, B3, B4, B5, B6]) (by simp [go_sem, B0, B1, B2, B3, B4, B5, B6]) (by simp [go_sem, B0, B1, B2, B3, B4, B5, B6])
    HB01.out.1 HB01.out.2.1 HB01.out.2.2 fB2 (fun i => (hRD.frozen _).trans (HR.out.fR i)) (fun i => (hRD.frozen _).trans (HR.out.fG i))
    (fun j hj => by rw [hRD.other _ (Ne.symm hA.RG) (.inl hA.GD)]; exact HR.out.room j hj) ((HR.out.drewN nq).src.kept (hRD.below N hA.nR hA.nD))
    hRD.dest ((Fr.refl w N B R gb gd od k nq).trans (Fr.of_rd hA hRD))⟩

set_option maxHeartbeats 1000000 in
/-- (*bufio.Reader).Read at the stream's end, dest at least as great as the buffer. -/
theorem bufread_eof1 (N B R gb gd od l c n cap0 ii : Nat) (a : Option Addr) (z : List Int) (pr lb ls : Int) (rr : Nat) (e1 : Addr) (w : World) (hin : n ≤ ii) (hii : ii ≤ 16384) (hn : n ≤ 16384) (hl : 4096 ≤ l) (hl2 : l ≤ 1000000)
    (ha : Apart N B R gb gd) (hraw : Raw w N B R gb n cap0 a z rr rr ii lb ls pr) (he : w.cell? ⟨1, 0, none⟩ = some (.iface 60 (.pointer (some e1)))) :
    Calls Ybaf.prog 32 #[.pointer (some ⟨B, 0, none⟩), .slice (some ⟨gd, od, none⟩) l c] w fun e w' => e = .returned (.tuple #[.int .i64 0, .iface 60 (.pointer (some e1))]) ∧ PostRead w w' N B R gb n cap0 a z rr rr ii gd od 0 ii := by
  have hl0 : ((l : Int) == 0) = false := by simp; omega
  have hl4 : (4096 : Int) ≤ (l : Int) := by omega
  have HR : Hid (Raw w N B R gb n cap0 a z rr rr ii lb ls pr) := hraw
  obtain ⟨b0, b1, b2, b3, b4, b5, b6, r0, r1, r2, fB, fR, fG, room, src⟩ := hraw
  clear room src fG fR r0 r1 r2
  have HA : Hid (Apart N B R gb gd) := ha
  clear ha
  go_enter Ybaf.func32, Ybaf.ntmps32
  go_wp2_with fail
  go_quiet (fail)
  go_wp2_with fail
  refine (bread_eof R n cap0 ii a _ _ (w.drewN nq) hin hn hii HR.out.r0 HR.out.r1 he).mono ?_
  rintro e w2 ⟨rfl, q, rfl⟩
  go_wp2_with fail
  refine (readErr_calls B (.iface 60 (.pointer (some e1))) _ (by simp [go_sem, b4]) (by simp [go_sem, fB])).mono ?_
  rintro e w3 ⟨rfl, rfl⟩
  go_wp2_with fail
  go_ret2
  have hA := HA.out
  exact ⟨rfl, post_of (w2 := w.drewN (nq + q)) (lb := lb) (ls := ls) (pr := pr) hA (by intro x hx; repeat rw [World.cell?_setCell_other _ _ _ _ (fun h => hx (by rw [← h]))]) (by intro x; simp) (by simp)
    (((Below.refl N (w.drewN (nq + q))).setCell (p := ⟨B, 4, none⟩) hA.nB _).setCell (p := ⟨B, 4, none⟩) hA.nB _)
    (by simp [go_sem, b0, b1, b2, b3, b4, b5, b6]) (by simp [go_sem, b0, b1, b2, b3, b4, b5, b6]) (by simp [go_sem, b0, b1, b2, b3, b4, b5, b6]) (by simp [go_sem, b0, b1, b2, b3, b4, b5, b6]) (by simp [go_sem, b0, b1, b2, b3, b4, b5, b6]) (by simp [go_sem, b0, b1, b2, b3, b4, b5, b6]) (by simp [go_sem, b0, b1, b2, b3, b4, b5, b6])
    HR.out.r0 HR.out.r1 HR.out.r2 HR.out.fB HR.out.fR HR.out.fG HR.out.room (HR.out.drewN (nq + q)).src (fun j hj => by omega) (Fr.refl w N B R gb gd od 0 (nq + q))⟩
end Go.Proofs.YbulkcgioFmt.Kit
