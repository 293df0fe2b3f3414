import Derived.Test.YbulkcgkeKit12
import Derived.Test.YbulkcgkeKit10
namespace Go.Proofs.Ybulkcgke
set_option linter.unusedSimpArgs false
set_option linter.unusedVariables false
open Go.ChangeShapes Go.WideShapes Go.ChangeAt Go.RowKit Go.Shelf Go.Lib

/-- The member while it has not coordinated. -/
structure Nd (w : World) (Nb Eb nl nh cl ch wc d s sz : Nat) (p ph pb : Option Addr) (S : Nat → Bool) (phv : ByteArray) : Prop where
  c0 : w.cell? ⟨Nb, 0, none⟩ = some (.int .i64 0)
  c6 : w.cell? ⟨Nb, 6, none⟩ = some (.int .i64 d)
  c14 : w.cell? ⟨Nb, 14, none⟩ = some (.slice ph nh ch)
  c15 : w.cell? ⟨Nb, 15, none⟩ = some (.slice p nl cl)
  c16 : w.cell? ⟨Nb, 16, none⟩ = some (.iface 28 (.pointer (some ⟨Eb, 0, none⟩)))
  c17 : w.cell? ⟨Nb, 17, none⟩ = some (.string phv)
  c18 : w.cell? ⟨Nb, 18, none⟩ = some (.int .i64 0)
  c19 : w.cell? ⟨Nb, 19, none⟩ = some (.bool false)
  c20 : w.cell? ⟨Nb, 20, none⟩ = some (.int .u64 0)
  c21 : w.cell? ⟨Nb, 21, none⟩ = some (.int .u64 s)
  c22 : w.cell? ⟨Nb, 22, none⟩ = some (.int .u64 0)
  set : PSet w Nb 24 nl cl wc p pb S sz
  log : w.cell? ⟨Eb, 0, none⟩ = some (.slice none 0 0)
  fe : w.frozen? ⟨Eb, 0, none⟩ = false
  sE : Eb < w.heap.size
  ne : Nb ≠ Eb
  sepP : ∀ a, p = some a → a.block ≠ Eb ∧ a.block < w.heap.size
  sepB : ∀ a, pb = some a → a.block ≠ Eb ∧ a.block ≠ Nb

/-- What a call of stopWaiting leaves alone. -/
structure Ks (w w' : World) (Nb Eb : Nat) (pb : Option Addr) : Prop where
  os : w'.os = w.os
  tape : w'.tape = w.tape
  output : w'.output = w.output
  size : w.heap.size ≤ w'.heap.size
  block : ∀ k, k < w.heap.size → k ≠ Nb → k ≠ Eb → (∀ a, pb = some a → k ≠ a.block) → w'.heap[k]? = w.heap[k]?

theorem Nd.removed {w w' : World} {Nb Eb nl nh cl ch wc d s sz sz' : Nat} {p ph pb : Option Addr} {S S' : Nat → Bool} {phv : ByteArray} (h : Nd w Nb Eb nl nh cl ch wc d s sz p ph pb S phv)
    (hp : PSet w' Nb 24 nl cl wc p pb S' sz') (ho : Only w w' Nb 24 pb) : Nd w' Nb Eb nl nh cl ch wc d s sz' p ph pb S' phv := by
  have hN := h.set.sN
  have hb : ∀ a, pb = some a → Nb ≠ a.block := fun a ha => Ne.symm (h.sepB a ha).2
  have cN : ∀ i, i ≠ 26 → w'.cell? ⟨Nb, i, none⟩ = w.cell? ⟨Nb, i, none⟩ := fun i hi => ho.other ⟨Nb, i, none⟩ hN (fun _ => hi) hb
  have hE : w'.heap[Eb]? = w.heap[Eb]? := ho.block Eb h.sE (Ne.symm h.ne) (fun a ha => Ne.symm (h.sepB a ha).1)
  exact ⟨(cN 0 (by decide)).trans h.c0, (cN 6 (by decide)).trans h.c6, (cN 14 (by decide)).trans h.c14, (cN 15 (by decide)).trans h.c15, (cN 16 (by decide)).trans h.c16, (cN 17 (by decide)).trans h.c17, (cN 18 (by decide)).trans h.c18, (cN 19 (by decide)).trans h.c19, (cN 20 (by decide)).trans h.c20, (cN 21 (by decide)).trans h.c21, (cN 22 (by decide)).trans h.c22, hp,
    (World.cell?_of_block (a := ⟨Eb, 0, none⟩) hE).trans h.log, (World.frozen?_of_block (a := ⟨Eb, 0, none⟩) hE).trans h.fe, Nat.lt_of_lt_of_le h.sE ho.size, h.ne, fun a ha => ⟨(h.sepP a ha).1, Nat.lt_of_lt_of_le (h.sepP a ha).2 ho.size⟩, h.sepB⟩

theorem Only.ks {w w' : World} {Nb Eb o : Nat} {pb : Option Addr} (h : Only w w' Nb o pb) : Ks w w' Nb Eb pb := ⟨h.os, h.tape, h.output, h.size, fun k h1 h2 _ h4 => h.block k h1 h2 h4⟩
theorem Ks.refl (w : World) (Nb Eb : Nat) (pb : Option Addr) : Ks w w Nb Eb pb := ⟨rfl, rfl, rfl, Nat.le_refl _, fun _ _ _ _ _ => rfl⟩
theorem Ks.trans {a b c : World} {Nb Eb : Nat} {pb : Option Addr} (h : Ks a b Nb Eb pb) (k : Ks b c Nb Eb pb) : Ks a c Nb Eb pb :=
  ⟨k.os.trans h.os, k.tape.trans h.tape, k.output.trans h.output, Nat.le_trans h.size k.size, fun j h1 h2 h3 h4 => (k.block j (Nat.lt_of_lt_of_le h1 h.size) h2 h3 h4).trans (h.block j h1 h2 h3 h4)⟩

/-- Outside the two waits. -/
theorem stop_off (Nb : Nat) (phv : ByteArray) (q : Int) (w : World) (hph : phv = { data := #[102, 111, 108, 108, 111, 119, 105, 110, 103] } ∨ phv = { data := #[99, 111, 111, 114, 100, 105, 110, 97, 116, 105, 110, 103] })
    (c17 : w.cell? ⟨Nb, 17, none⟩ = some (.string phv)) :
    Calls Yba.prog 6 #[.pointer (some ⟨Nb, 0, none⟩), .int .i64 q] w fun e w' => e = .returned (.tuple #[]) ∧ w' = w := by
  rcases hph with rfl | rfl
  · go_enter Yba.func6, Yba.ntmps6
    go_wp2_with fail
    refine bodyPost_ret (results_none rfl _ _ _) rfl ?_
    exact ⟨rfl, rfl⟩
  · go_enter Yba.func6, Yba.ntmps6
    go_wp2_with fail
    refine bodyPost_ret (results_none rfl _ _ _) rfl ?_
    exact ⟨rfl, rfl⟩

def awT : ByteArray := { data := #[97, 119, 97, 105, 116, 105, 110, 103, 32, 116, 101, 114, 109, 115] }

set_option maxRecDepth 10000 in
set_option maxHeartbeats 400000 in
/-- Awaiting terms: someone is left. -/
theorem stop_wait (Nb Eb nl nh cl ch wc d s sz : Nat) (p ph pb : Option Addr) (S : Nat → Bool) (q : Int) (w : World) (h : Nd w Nb Eb nl nh cl ch wc d s sz p ph pb S awT) (hnl : nl ≤ 255) (hsz : sz ≤ 255) (hpos : hit nl S q = true → 1 ≤ sz)
    (hleft : 0 < (if hit nl S q then sz - 1 else sz)) :
    Calls Yba.prog 6 #[.pointer (some ⟨Nb, 0, none⟩), .int .i64 q] w fun e w' => e = .returned (.tuple #[]) ∧ Nd w' Nb Eb nl nh cl ch wc d s (if hit nl S q then sz - 1 else sz) p ph pb (rem1 nl S q) awT ∧ Ks w w' Nb Eb pb := by
  have hcall := hide' (remove_calls Nb 24 nl cl wc sz p pb S q w h.set hnl hsz hpos)
  generalize hs' : (if hit nl S q then sz - 1 else sz) = sz' at *
  have hlt : 0 < sz' := hleft
  have c17 := h.c17
  unfold awT at c17
  have HH := hide' h
  clear h hs' hleft hpos hsz hnl
  go_enter Yba.func6, Yba.ntmps6
  go_wp2_with (go_at_call 10; refine hcall.out.mono ?_; rintro e w2 ⟨rfl, hp, ho⟩; have hn := HH.out.removed hp ho; have m26 := hp.c2; have HN := hide' hn; have HO := hide' ho; clear hp ho hn)
  go_end0
  exact ⟨rfl, HN.out, HO.out.ks⟩

/-- The member once it coordinates. -/
structure Dn (w : World) (Nb Eb base nl cl d T : Nat) (p : Option Addr) : Prop where
  lg : Lg w Eb base (logN nl d) (logX nl d T)
  c17 : w.cell? ⟨Nb, 17, none⟩ = some phC
  c19 : w.cell? ⟨Nb, 19, none⟩ = some (.bool true)
  c20 : w.cell? ⟨Nb, 20, none⟩ = some (.int .u64 T)
  c21 : w.cell? ⟨Nb, 21, none⟩ = some (.int .u64 T)
  c22 : w.cell? ⟨Nb, 22, none⟩ = some (.int .u64 1)
  c24 : w.cell? ⟨Nb, 24, none⟩ = some (.slice p nl cl)
  c26 : w.cell? ⟨Nb, 26, none⟩ = some (.int .i64 0)

set_option maxRecDepth 10000 in
set_option maxHeartbeats 400000 in
/-- Awaiting terms: no one is left. -/
theorem stop_done (Nb Eb nl nh cl ch wc d s sz : Nat) (p ph pb : Option Addr) (S : Nat → Bool) (q : Int) (w : World) (h : Nd w Nb Eb nl nh cl ch wc d s sz p ph pb S awT) (hnl : nl ≤ 255) (hnh : nh ≤ 255) (hd : d ≤ 65535) (hs : s < 4611686018427387904) (hsz : sz ≤ 255) (hpos : hit nl S q = true → 1 ≤ sz)
    (hleft : (if hit nl S q then sz - 1 else sz) = 0) :
    Calls Yba.prog 6 #[.pointer (some ⟨Nb, 0, none⟩), .int .i64 q] w fun e w' => e = .returned (.tuple #[]) ∧ (∃ base, w.heap.size ≤ base ∧ Dn w' Nb Eb base nl cl d (termA s nl nh) p) ∧ Ks w w' Nb Eb pb := by
  have hcall := remove_calls Nb 24 nl cl wc sz p pb S q w h.set hnl hsz hpos
  rw [hleft] at hcall
  have HCALL := hide' hcall
  have c17 := h.c17
  unfold awT at c17
  have HH := hide' h
  have HB := hide' (And.intro hnl (And.intro hnh (And.intro hd hs)))
  clear h hcall hleft hpos hsz hnl hnh hd hs
  go_enter Yba.func6, Yba.ntmps6
  go_wp2_with (go_at_call 10; refine HCALL.out.mono ?_; rintro e w2 ⟨rfl, hp, ho⟩; have hn := HH.out.removed hp ho; have m26 := hp.c2; have m17 := hn.c17; unfold awT at m17; have HN := hide' hn; have HO := hide' ho; have hc12 := hide' (coordinate_calls Nb Eb w2.heap.size nl nh cl ch d s p ph awT w2 ⟨⟨none, 0, hn.log, World.ownsRow_nil w2 _ _ _⟩, hn.fe, hn.sE, Nat.le_refl _⟩ HB.out.1 HB.out.2.1 HB.out.2.2.1 HB.out.2.2.2 hn.set.sN hn.ne hn.set.ids (fun a ha => ⟨(hn.sepP a ha).2, (hn.sepP a ha).1, (hn.set.sep a ha).1⟩) hn.c0 hn.c6 hn.c14 hn.c15 hn.c16 hn.c17 hn.c18 hn.c19 hn.c20 hn.c21 hn.c22 hn.set.fz); clear hp ho hn)
  refine hc12.out.mono ?_
  rintro e w3 ⟨rfl, h1, h2, h3, h4, h5, h6, h7⟩
  have HX := hide' (Dn.mk h1 h2 h3 h4 h5 h6 ((h7.cell 24 (by simp)).trans HN.out.set.c0) ((h7.cell 26 (by simp)).trans HN.out.set.c2))
  have HK := hide' h7
  clear h1 h2 h3 h4 h5 h6 h7 hc12
  go_wp2_with fail
  go_end0
  refine ⟨rfl, ⟨w2.heap.size, HO.out.size, HX.out⟩, ?_⟩
  exact (HO.out.ks).trans ⟨HK.out.os, HK.out.tape, HK.out.output, HK.out.size, fun k h1 h2 h3 _ => HK.out.block k h1 h3 h2⟩
end Go.Proofs.Ybulkcgke
