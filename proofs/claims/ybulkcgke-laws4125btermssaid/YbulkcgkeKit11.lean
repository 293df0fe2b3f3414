import Derived.Test.YbulkcgkeKit9
import Derived.Test.YbulkcgkePlain2
import Derived.BigQuiet
namespace Go.Proofs.Ybulkcgke
set_option linter.unusedSimpArgs false
set_option linter.unusedVariables false
open Go.ChangeShapes Go.WideShapes Go.ChangeAt Go.RowKit Go.Shelf Go.Lib

@[go_sem] theorem methS (x : Value) (w : World) : (method 222 28 x "Send").run Yba.prog w = .ok (73, x) w := by kernel_rfl
@[go_sem] theorem methA (x : Value) (w : World) : (method 222 28 x "After").run Yba.prog w = .ok (70, x) w := by kernel_rfl
@[go_sem] theorem methC (x : Value) (w : World) : (method 222 28 x "CoordinatorChanged").run Yba.prog w = .ok (71, x) w := by kernel_rfl
@[go_sem] theorem nilS (x : Addr) (w : World) : (nilAhead 222 28 (.pointer (some x)) "Send").run Yba.prog w = .ok (some false) w := by kernel_rfl
@[go_sem] theorem nilA (x : Addr) (w : World) : (nilAhead 222 28 (.pointer (some x)) "After").run Yba.prog w = .ok (some false) w := by kernel_rfl
@[go_sem] theorem nilC (x : Addr) (w : World) : (nilAhead 222 28 (.pointer (some x)) "CoordinatorChanged").run Yba.prog w = .ok (some false) w := by kernel_rfl

set_option maxRecDepth 10000 in
set_option maxHeartbeats 400000 in
theorem send_calls (Nb Eb base n : Nat) (xs : List Value) (to term : Int) (w : World) (hL : Lg w Eb base n xs) (hn : n ≤ 1000) (hN : Nb < base) (hNE : Nb ≠ Eb)
    (he : w.cell? ⟨Nb, 16, none⟩ = some (.iface 28 (.pointer (some ⟨Eb, 0, none⟩)))) (hs : w.cell? ⟨Nb, 21, none⟩ = some (.int .u64 term)) :
    Calls Yba.prog 29 #[.pointer (some ⟨Nb, 0, none⟩), .int .i64 to, .string coS] w fun e w' => e = .returned (.tuple #[]) ∧ Lg w' Eb base (n + 1) (xs ++ evS to term) ∧ Kb base Eb w w' := by
  have hcall := Send_calls Eb base n xs to term w.drew ⟨hL.own.imp fun q h => h.imp fun c h => ⟨h.1, h.2.drew⟩, hL.fz, hL.lt, hL.le⟩ hn
  have HL := hide' hL
  clear hL hn hN
  go_enter Yba.func29, Yba.ntmps29
  go_wp2_with fail
  go_region_with (go_at_call 73; refine hcall.mono ?_; rintro e w2 ⟨rfl, h2, h3⟩)
  all_goals clear hcall he hs
  all_goals have H2 := hide' h2
  all_goals have H3 := hide' h3
  all_goals clear h2 h3
  all_goals go_end0
  all_goals exact ⟨rfl, H2.out, H3.out.os, H3.out.tape, H3.out.output, H3.out.size, H3.out.block⟩

set_option maxRecDepth 10000 in
set_option maxHeartbeats 400000 in
theorem places_calls (Nb nl nh cl ch : Nat) (p ph : Option Addr) (w : World) (hnl : nl ≤ 255) (hnh : nh ≤ 255)
    (hh : w.cell? ⟨Nb, 14, none⟩ = some (.slice ph nh ch)) (hl : w.cell? ⟨Nb, 15, none⟩ = some (.slice p nl cl)) :
    Calls Yba.prog 31 #[.pointer (some ⟨Nb, 0, none⟩)] w fun e w' => e = .returned (.tuple #[.int .u64 ((nl + 1 + nh : Nat) : Int), .int .u64 ((nl + 1 : Nat) : Int)]) ∧ Below w.heap.size w w' := by
  go_enter Yba.func31, Yba.ntmps31
  go_wp2_with fail
  go_quiet (fail)
  go_wp2_with fail
  go_ret2
  exact ⟨by simp, rfl, rfl, rfl, Nat.le_refl _, fun _ _ => rfl⟩

set_option maxRecDepth 10000 in
set_option maxHeartbeats 400000 in
theorem termAbove_calls (Nb nl nh cl ch s : Nat) (p ph : Option Addr) (w : World) (hnl : nl ≤ 255) (hnh : nh ≤ 255) (hs : s < 4611686018427387904)
    (hh : w.cell? ⟨Nb, 14, none⟩ = some (.slice ph nh ch)) (hl : w.cell? ⟨Nb, 15, none⟩ = some (.slice p nl cl)) :
    Calls Yba.prog 23 #[.pointer (some ⟨Nb, 0, none⟩), .int .u64 s] w fun e w' => e = .returned (.int .u64 (termA s nl nh)) ∧ Below w.heap.size w w' := by
  have hcall := places_calls Nb nl nh cl ch p ph w hnl hnh hh hl
  have HS := hide' hs
  have HNL := hide' hnl
  have HNH := hide' hnh
  clear hs hnl hnh
  go_enter Yba.func23, Yba.ntmps23
  go_wp2_with fail
  refine hcall.mono ?_
  rintro e w2 ⟨rfl, hB⟩
  have HB := hide' hB
  clear hcall hB
  generalize hz : nl + 1 + nh = z
  have hz0 : ¬ ((z : Int) = 0) := by omega
  have HZ := hide' hz
  clear hz
  go_wp2_with fail
  go_ret
  refine ⟨?_, HB.out⟩
  have h := termW s z nl HS.out (by have := HZ.out; omega) (by have := HZ.out; have := HNL.out; have := HNH.out; omega) HNL.out
  unfold termA
  rw [HZ.out, ← h]
  rfl

/-- What a step of the member's leaves alone: nothing below base but the log's cell and the cells T of the member's own. -/
structure Kc (base Eb Nb : Nat) (T : List Nat) (w w' : World) : Prop where
  os : w'.os = w.os
  tape : w'.tape = w.tape
  output : w'.output = w.output
  size : w.heap.size ≤ w'.heap.size
  block : ∀ k, k < base → k ≠ Eb → k ≠ Nb → w'.heap[k]? = w.heap[k]?
  cell : ∀ i, i ∉ T → w'.cell? ⟨Nb, i, none⟩ = w.cell? ⟨Nb, i, none⟩
  fz : ∀ i, w'.frozen? ⟨Nb, i, none⟩ = w.frozen? ⟨Nb, i, none⟩
theorem Kc.trans {base Eb Nb : Nat} {T T' : List Nat} {a b c : World} (h : Kc base Eb Nb T a b) (k : Kc base Eb Nb T' b c) : Kc base Eb Nb (T ++ T') a c :=
  ⟨k.os.trans h.os, k.tape.trans h.tape, k.output.trans h.output, Nat.le_trans h.size k.size, fun j h1 h2 h3 => (k.block j h1 h2 h3).trans (h.block j h1 h2 h3),
   fun i hi => (k.cell i (fun e => hi (List.mem_append.2 (.inr e)))).trans (h.cell i (fun e => hi (List.mem_append.2 (.inl e)))), fun i => (k.fz i).trans (h.fz i)⟩
theorem Kb.kc {base Eb Nb : Nat} {w w' : World} (h : Kb base Eb w w') (h1 : Nb < base) (h2 : Nb ≠ Eb) : Kc base Eb Nb [] w w' :=
  ⟨h.os, h.tape, h.output, h.size, fun k a b _ => h.block k a b, fun i _ => h.cell (x := ⟨Nb, i, none⟩) h1 h2, fun i => h.frozen (x := ⟨Nb, i, none⟩) h1 h2⟩
theorem Kc.below {base Eb Nb B : Nat} {w w' : World} (h : Below B w w') (hb : base ≤ B) (hN : Nb < base) : Kc base Eb Nb [] w w' :=
  ⟨h.os, h.tape, h.output, h.size, fun k a _ _ => h.block k (by omega), fun i _ => h.cell (p := ⟨Nb, i, none⟩) (by show Nb < B; omega), fun i => h.frozen (p := ⟨Nb, i, none⟩) (by show Nb < B; omega)⟩
theorem Kc.set (base Eb Nb i : Nat) (w : World) (v : Value) : Kc base Eb Nb [i] w (w.setCell ⟨Nb, i, none⟩ v) :=
  ⟨rfl, rfl, rfl, by simp, fun k _ _ h => Below.heap_setCell _ _ _ _ h, fun j hj => World.cell?_setCell_other _ _ _ _ (by simp at hj ⊢; omega), fun j => by rw [World.frozen?_setCell]⟩
theorem Lg.kept {base Eb n B : Nat} {xs : List Value} {w w' : World} (h : Lg w Eb base n xs) (hb : Below B w w') (hB : w.heap.size ≤ B) : Lg w' Eb base n xs := by
  obtain ⟨⟨q, c, hc, hown⟩, hfz, hlt, hle⟩ := h
  refine ⟨⟨q, c, (hb.cell (p := ⟨Eb, 0, none⟩) (by show Eb < B; omega)).trans hc, ?_⟩, (hb.frozen (p := ⟨Eb, 0, none⟩) (by show Eb < B; omega)).trans hfz, hlt, by have := hb.size; omega⟩
  obtain ⟨h1, h2⟩ := hown
  refine ⟨h1, ?_⟩
  rcases h2 with h2 | ⟨g, cap, cur, hv, hg, hh, r⟩
  · exact .inl h2
  · refine .inr ⟨g, cap, cur, hv, hg, (hb.block g ?_).trans hh, r⟩
    have : g < w.heap.size := by
      rcases Nat.lt_or_ge g w.heap.size with h | h
      · exact h
      · rw [Array.getElem?_eq_none h] at hh; cases hh
    omega
theorem Lg.setN {base Eb Nb n i : Nat} {v : Value} {xs : List Value} {w : World} (h : Lg w Eb base n xs) (h1 : Nb < base) (h2 : Nb ≠ Eb) : Lg (w.setCell ⟨Nb, i, none⟩ v) Eb base n xs := by
  obtain ⟨⟨q, c, hc, hown⟩, hfz, hlt, hle⟩ := h
  exact ⟨⟨q, c, by rw [World.cell?_setCell_other _ _ _ _ (by simp [h2])]; exact hc, ownsRow_setCell_below hown h1 _⟩, by rw [World.frozen?_setCell]; exact hfz, hlt, by simpa using hle⟩

set_option maxRecDepth 10000 in
set_option maxHeartbeats 400000 in
theorem take_calls (Nb Eb base n : Nat) (xs : List Value) (term : Int) (w : World) (hL : Lg w Eb base n xs) (hn : n ≤ 1000) (hN : Nb < base) (hNE : Nb ≠ Eb)
    (he : w.cell? ⟨Nb, 16, none⟩ = some (.iface 28 (.pointer (some ⟨Eb, 0, none⟩)))) (h18 : w.cell? ⟨Nb, 18, none⟩ = some (.int .i64 0)) (h19 : w.cell? ⟨Nb, 19, none⟩ = some (.bool false)) (h20 : w.cell? ⟨Nb, 20, none⟩ = some (.int .u64 0))
    (fz : ∀ i, w.frozen? ⟨Nb, i, none⟩ = false) :
    Calls Yba.prog 24 #[.pointer (some ⟨Nb, 0, none⟩), .int .i64 0, .int .u64 term] w fun e w' => e = .returned (.tuple #[]) ∧ Lg w' Eb base (n + 1) (xs ++ evC term) ∧ w'.cell? ⟨Nb, 19, none⟩ = some (.bool true) ∧ w'.cell? ⟨Nb, 20, none⟩ = some (.int .u64 term) ∧ Kc base Eb Nb [18, 19, 20] w w' := by
  have hcall := Changed_calls Eb base n xs term (((w.setCell ⟨Nb, 18, none⟩ (.int .i64 0)).setCell ⟨Nb, 19, none⟩ (.bool true)).setCell ⟨Nb, 20, none⟩ (.int .u64 term)) (((hL.setN hN hNE).setN hN hNE).setN hN hNE) hn
  have HC := hide' hcall
  clear hcall hL hn
  go_enter Yba.func24, Yba.ntmps24
  go_wp2_with (go_at_call 71; refine HC.out.mono ?_; rintro e w2 ⟨rfl, h2, h3⟩; have H2 := hide' h2; have H3 := hide' h3; clear h2 h3)
  go_end0
  refine ⟨rfl, H2.out, ?_, ?_, (((Kc.set base Eb Nb 18 w _).trans (Kc.set base Eb Nb 19 _ _)).trans (Kc.set base Eb Nb 20 _ _)).trans (H3.out.kc hN hNE)⟩
  · rw [H3.out.cell (x := ⟨Nb, 19, none⟩) hN hNE, World.cell?_setCell_other _ _ _ _ (by simp)]
    exact World.cell?_setCell_same _ _ _ (by rw [World.cell?_setCell_other _ _ _ _ (by simp)]; exact h19)
  · rw [H3.out.cell (x := ⟨Nb, 20, none⟩) hN hNE]
    exact World.cell?_setCell_same _ _ _ (by rw [World.cell?_setCell_other _ _ _ _ (by simp), World.cell?_setCell_other _ _ _ _ (by simp)]; exact h20)

/-- The messages to the first k lower peers. -/
def sends (nl : Nat) (term : Int) : Nat → List Value
  | 0 => []
  | k + 1 => sends nl term k ++ evS ((k : Int) - nl) term
def afters (d : Nat) : List Value := if 0 < d then evA d else []

set_option maxRecDepth 10000 in
set_option maxHeartbeats 400000 in
theorem announce_calls (Nb Eb base n nl cl d : Nat) (p : Option Addr) (xs : List Value) (term : Int) (w : World) (hL : Lg w Eb base n xs) (hn : n ≤ 100) (hnl : nl ≤ 255) (hd : d ≤ 65535) (hN : Nb < base) (hNE : Nb ≠ Eb)
    (hids : Ids w p nl) (hpb : ∀ a, p = some a → a.block < base ∧ a.block ≠ Eb)
    (hai : w.cell? ⟨Nb, 6, none⟩ = some (.int .i64 d)) (hl : w.cell? ⟨Nb, 15, none⟩ = some (.slice p nl cl)) (he : w.cell? ⟨Nb, 16, none⟩ = some (.iface 28 (.pointer (some ⟨Eb, 0, none⟩)))) (h21 : w.cell? ⟨Nb, 21, none⟩ = some (.int .u64 term)) (h22 : w.cell? ⟨Nb, 22, none⟩ = some (.int .u64 0))
    (fz : ∀ i, w.frozen? ⟨Nb, i, none⟩ = false) :
    Calls Yba.prog 19 #[.pointer (some ⟨Nb, 0, none⟩)] w fun e w' => e = .returned (.tuple #[]) ∧ Lg w' Eb base (n + nl + (if 0 < d then 1 else 0)) (xs ++ sends nl term nl ++ afters d) ∧ w'.cell? ⟨Nb, 22, none⟩ = some (.int .u64 1) ∧ Kc base Eb Nb [22] w w' := by
  have HL := hide' hL
  have HI := hide' hids
  have HP := hide' hpb
  have HN := hide' hn
  have HNL := hide' hnl
  have HD := hide' hd
  clear hL hids hpb hn hnl hd
  go_enter Yba.func19, Yba.ntmps19
  go_wp2_with fail
  go_loopg [9] nl (fun g s9 wr => ∃ j : Nat, s9 = .int .i64 j ∧ j ≤ nl ∧ g = nl - j ∧ Hid (Lg wr Eb base (n + j) (xs ++ sends nl term j) ∧ Kb base Eb w wr))
  case atStart => exact ⟨0, rfl, by omega, by omega, by simpa [sends] using HL.out, Kb.refl _ _ _⟩
  case round =>
    obtain ⟨j, rfl, hjl, hg, HR⟩ := hrel
    have HG := hide' hg
    have k16 := (HR.out.2.cell (x := ⟨Nb, 16, none⟩) hN hNE).trans he
    have k21 := (HR.out.2.cell (x := ⟨Nb, 21, none⟩) hN hNE).trans h21
    have k22 := (HR.out.2.cell (x := ⟨Nb, 22, none⟩) hN hNE).trans h22
    have k6 := (HR.out.2.cell (x := ⟨Nb, 6, none⟩) hN hNE).trans hai
    have kf : ∀ i, wr.frozen? ⟨Nb, i, none⟩ = false := fun i => (HR.out.2.frozen (x := ⟨Nb, i, none⟩) hN hNE).trans (fz i)
    clear hg
    by_cases hlt : j < nl
    · have hlt2 : decide ((j : Int) < nl) = true := by simp; omega
      obtain ⟨blk, off, rfl, hb, hc⟩ := HI.out j hlt
      have hpp := HP.out _ rfl
      have hc2 : wr.cell? ⟨blk, off + j, none⟩ = some (.int .i64 ((j : Int) - nl)) := (HR.out.2.cell (x := ⟨blk, off + j, none⟩) hpp.1 hpp.2).trans hc
      have hcall := hide' (send_calls Nb Eb base (n + j) (xs ++ sends nl term j) ((j : Int) - nl) term wr HR.out.1 (by have := HN.out; have := HNL.out; omega) hN hNE k16 k21)
      clear hb hc hpp
      have hj255 : j ≤ 255 := by have := HNL.out; omega
      generalize hto : (j : Int) - nl = to at *
      have HTO := hide' hto
      clear hto
      go_wp2_with (go_at_call 29; refine hcall.out.mono ?_; rintro e w2 ⟨rfl, h2, h3⟩; have H2 := hide' h2; have H3 := hide' h3; clear h2 h3)
      go_roundg (nl - (j + 1))
      case measure => have := HG.out; omega
      case rel => exact ⟨j + 1, by push_cast; rfl, by omega, rfl, by rw [sends, HTO.out, ← List.append_assoc]; exact H2.out, HR.out.2.trans H3.out⟩
    · have hlt2 : decide ((j : Int) < nl) = false := by simp; omega
      obtain rfl : j = nl := by omega
      have HQ := hide' (HR.out.1.setN (i := 22) (v := .int .u64 1) hN hNE)
      by_cases hd0 : 0 < d
      · have hd2 : decide ((0 : Int) < d) = true := by simp; omega
        have hcall := hide' (After_calls Eb base (n + j) (xs ++ sends j term j) d (wr.setCell ⟨Nb, 22, none⟩ (.int .u64 1)).drew (HQ.out.kept (Below.refl _ _).drew (Nat.le_refl _)) (by have := HN.out; have := HNL.out; omega))
        go_wp2_with fail
        go_region_with (go_at_call 70; refine hcall.out.mono ?_; rintro e w2 ⟨rfl, h2, h3⟩; have H2 := hide' h2; have H3 := hide' h3; clear h2 h3)
        all_goals go_end0
        all_goals refine ⟨rfl, ?_, ?_, ((HR.out.2.kc hN hNE).trans (Kc.set base Eb Nb 22 wr _)).trans (Kb.kc ⟨H3.out.os, H3.out.tape, H3.out.output, H3.out.size, H3.out.block⟩ hN hNE)⟩
        all_goals first
          | (rw [if_pos hd0, afters, if_pos hd0]; exact H2.out)
          | (rw [H3.out.cell (x := ⟨Nb, 22, none⟩) hN hNE]; exact World.cell?_setCell_same _ _ _ k22)
      · obtain rfl : d = 0 := by omega
        go_wp2_with fail
        go_end0
        refine ⟨rfl, ?_, World.cell?_setCell_same _ _ _ k22, (HR.out.2.kc hN hNE).trans (Kc.set base Eb Nb 22 wr _)⟩
        have := HQ.out
        simpa [afters] using this
end Go.Proofs.Ybulkcgke
