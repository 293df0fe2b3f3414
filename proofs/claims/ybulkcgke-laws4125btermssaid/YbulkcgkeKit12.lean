import Derived.Test.YbulkcgkeKit11
namespace Go.Proofs.Ybulkcgke
set_option linter.unusedSimpArgs false
set_option linter.unusedVariables false
open Go.ChangeShapes Go.WideShapes Go.ChangeAt Go.RowKit Go.Shelf Go.Lib

def phC : Value := .string { data := #[99, 111, 111, 114, 100, 105, 110, 97, 116, 105, 110, 103] }

/-- The whole log of a coordination. -/
def logN (nl d : Nat) : Nat := 0 + 1 + nl + (if 0 < d then 1 else 0)
def logX (nl d : Nat) (T : Int) : List Value := [] ++ evC T ++ sends nl T nl ++ afters d

theorem Kc.ids {base Eb Nb nl : Nat} {T : List Nat} {w w' : World} {p : Option Addr} (h : Kc base Eb Nb T w w') (hi : Ids w p nl) (hp : ∀ a, p = some a → a.block < base ∧ a.block ≠ Eb ∧ a.block ≠ Nb) : Ids w' p nl :=
  hi.kept (fun a ha i => World.cell?_of_block (a := ⟨a.block, a.off + i, none⟩) (h.block a.block (hp a ha).1 (hp a ha).2.1 (hp a ha).2.2)) h.size

theorem Kc.drewR (base Eb Nb : Nat) (w : World) : Kc base Eb Nb [] w w.drew := ⟨rfl, rfl, rfl, Nat.le_refl _, fun _ _ _ _ => rfl, fun _ _ => rfl, fun _ => rfl⟩

set_option maxRecDepth 10000 in
set_option maxHeartbeats 400000 in
theorem coordinate_calls (Nb Eb base nl nh cl ch d s : Nat) (p ph : Option Addr) (v17 : ByteArray) (w : World) (hL : Lg w Eb base 0 []) (hnl : nl ≤ 255) (hnh : nh ≤ 255) (hd : d ≤ 65535) (hs : s < 4611686018427387904) (hN : Nb < base) (hNE : Nb ≠ Eb)
    (hids : Ids w p nl) (hpb : ∀ a, p = some a → a.block < base ∧ a.block ≠ Eb ∧ a.block ≠ Nb)
    (c0 : w.cell? ⟨Nb, 0, none⟩ = some (.int .i64 0)) (c6 : w.cell? ⟨Nb, 6, none⟩ = some (.int .i64 d)) (c14 : w.cell? ⟨Nb, 14, none⟩ = some (.slice ph nh ch)) (c15 : w.cell? ⟨Nb, 15, none⟩ = some (.slice p nl cl)) (c16 : w.cell? ⟨Nb, 16, none⟩ = some (.iface 28 (.pointer (some ⟨Eb, 0, none⟩))))
    (c17 : w.cell? ⟨Nb, 17, none⟩ = some (.string v17)) (c18 : w.cell? ⟨Nb, 18, none⟩ = some (.int .i64 0)) (c19 : w.cell? ⟨Nb, 19, none⟩ = some (.bool false)) (c20 : w.cell? ⟨Nb, 20, none⟩ = some (.int .u64 0)) (c21 : w.cell? ⟨Nb, 21, none⟩ = some (.int .u64 s)) (c22 : w.cell? ⟨Nb, 22, none⟩ = some (.int .u64 0))
    (fz : ∀ i, w.frozen? ⟨Nb, i, none⟩ = false) :
    Calls Yba.prog 12 #[.pointer (some ⟨Nb, 0, none⟩)] w fun e w' => e = .returned (.tuple #[]) ∧ Lg w' Eb base (logN nl d) (logX nl d (termA s nl nh)) ∧
      w'.cell? ⟨Nb, 17, none⟩ = some phC ∧ w'.cell? ⟨Nb, 19, none⟩ = some (.bool true) ∧ w'.cell? ⟨Nb, 20, none⟩ = some (.int .u64 (termA s nl nh)) ∧ w'.cell? ⟨Nb, 21, none⟩ = some (.int .u64 (termA s nl nh)) ∧ w'.cell? ⟨Nb, 22, none⟩ = some (.int .u64 1) ∧ Kc base Eb Nb [17, 21, 18, 19, 20, 22] w w' := by
  have K1 := Kc.set base Eb Nb 17 w phC
  have L1 := hL.setN (i := 17) (v := phC) hN hNE
  have hcall1 := hide' (termAbove_calls Nb nl nh cl ch s p ph (w.setCell ⟨Nb, 17, none⟩ phC) hnl hnh hs ((K1.cell 14 (by simp)).trans c14) ((K1.cell 15 (by simp)).trans c15))
  have HB := hide' (And.intro hnl (And.intro hd hL.le))
  have HI := hide' hids
  have HP := hide' hpb
  have HK1 := hide' K1
  have HL1 := hide' L1
  clear K1 L1 hL hnl hnh hd hs hids hpb
  generalize termA s nl nh = T at *
  go_enter Yba.func12, Yba.ntmps12
  go_wp2_with (go_at_call 23; refine hcall1.out.mono ?_; rintro e w2 ⟨rfl, hb⟩; have HB2 := hide' hb; have k21 := (hb.cell (p := ⟨Nb, 21, none⟩) (by show Nb < _; have := HB.out.2.2; simp; omega)).trans ((HK1.out.cell 21 (by simp)).trans c21); have kf : ∀ i, w2.frozen? ⟨Nb, i, none⟩ = false := fun i => (hb.frozen (p := ⟨Nb, i, none⟩) (by show Nb < _; have := HB.out.2.2; simp; omega)).trans ((HK1.out.fz i).trans (fz i)); clear hb)
  have hsz : (w.setCell ⟨Nb, 17, none⟩ phC).heap.size = w.heap.size := by simp
  have K3 := (HK1.out.trans (Kc.below (Eb := Eb) HB2.out (by rw [hsz]; exact HB.out.2.2) hN)).trans (Kc.set base Eb Nb 21 w2 (.int .u64 T))
  have L3 := (HL1.out.kept HB2.out (Nat.le_refl _)).setN (i := 21) (v := .int .u64 T) hN hNE
  have m17 : (w2.setCell ⟨Nb, 21, none⟩ (.int .u64 T)).cell? ⟨Nb, 17, none⟩ = some phC := by
    rw [World.cell?_setCell_other _ _ _ _ (by simp), HB2.out.cell (p := ⟨Nb, 17, none⟩) (by show Nb < _; rw [hsz]; have := HB.out.2.2; omega)]
    exact World.cell?_setCell_same _ _ _ c17
  have m21 : (w2.setCell ⟨Nb, 21, none⟩ (.int .u64 T)).cell? ⟨Nb, 21, none⟩ = some (.int .u64 T) := World.cell?_setCell_same _ _ _ k21
  clear hsz k21 kf HK1 HL1 HB2 hcall1
  generalize w2.setCell ⟨Nb, 21, none⟩ (.int .u64 (T : Int)) = w3 at *
  clear w2
  have f3 : ∀ i, w3.frozen? ⟨Nb, i, none⟩ = false := fun i => (K3.fz i).trans (fz i)
  have n0 := (K3.cell 0 (by simp)).trans c0
  have n16 := (K3.cell 16 (by simp)).trans c16
  have hcall2 := hide' (take_calls Nb Eb base 0 [] T w3.drew (L3.kept (Below.refl _ _).drew (Nat.le_refl _)) (by omega) hN hNE n16 ((K3.cell 18 (by simp)).trans c18) ((K3.cell 19 (by simp)).trans c19) ((K3.cell 20 (by simp)).trans c20) f3)
  have HK3 := hide' K3
  have M17 := hide' m17
  clear K3 L3 f3 n16 m17
  go_region_with (go_at_call 24; refine hcall2.out.mono ?_; rintro e w4 ⟨rfl, h1, h2, h3, h4⟩; have H1 := hide' h1; have H2 := hide' h2; have H3 := hide' h3; have H4 := hide' h4; clear h1 h2 h3 h4)
  all_goals (
    have K4 := HK3.out.trans ((Kc.drewR base Eb Nb w3).trans H4.out)
    have o17 : w4.cell? ⟨Nb, 17, none⟩ = some phC := (H4.out.cell 17 (by simp)).trans M17.out
    have o21 : w4.cell? ⟨Nb, 21, none⟩ = some (.int .u64 T) := (H4.out.cell 21 (by simp)).trans m21
    have f4 : ∀ i, w4.frozen? ⟨Nb, i, none⟩ = false := fun i => (K4.fz i).trans (fz i)
    have hcall3 := hide' (announce_calls Nb Eb base (0 + 1) nl cl d p ([] ++ evC T) T w4 H1.out (by omega) HB.out.1 HB.out.2.1 hN hNE (K4.ids HI.out HP.out) (fun a ha => ⟨(HP.out a ha).1, (HP.out a ha).2.1⟩) ((K4.cell 6 (by simp)).trans c6) ((K4.cell 15 (by simp)).trans c15) ((K4.cell 16 (by simp)).trans c16) o21 ((K4.cell 22 (by simp)).trans c22) f4)
    have HK4 := hide' K4
    have O17 := hide' o17
    have O21 := hide' o21
    clear K4 o17 o21 f4 hcall2 m21 c0 c6 c14 c15 c16 c17 c18 c19 c20 c21 c22 n0 fz
    go_wp2_with (go_at_call 19; refine hcall3.out.mono ?_; rintro e w5 ⟨rfl, h1, h2, h3⟩; have G1 := hide' h1; have G2 := hide' h2; have G3 := hide' h3; clear h1 h2 h3)
    go_end0
    exact ⟨rfl, G1.out, (G3.out.cell 17 (by simp)).trans O17.out, (G3.out.cell 19 (by simp)).trans H2.out, (G3.out.cell 20 (by simp)).trans H3.out, (G3.out.cell 21 (by simp)).trans O21.out, G2.out, HK4.out.trans G3.out⟩)
end Go.Proofs.Ybulkcgke
