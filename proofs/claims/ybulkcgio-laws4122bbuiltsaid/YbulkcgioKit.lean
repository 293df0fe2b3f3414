import Derived.Test.YbulkcgioRows
import Derived.WalkKit
import Derived.ProofKit
import Derived.OpenShut
import Derived.Below
import Derived.Deep.QuietTactic
import Derived.BigQuiet
import Derived.Lib.QuietBelow
import Derived.Lib.EndianBits
namespace Go.Proofs.Ybulkcgio.Kit
set_option linter.unusedSimpArgs false
set_option linter.unusedVariables false
open Go.ChangeShapes Go.WideShapes Go.ChangeAt Go.RowKit Go.Sort

theorem ret_int {k : IntKind} {a b : Int} (h : a = b) : Ending.returned (.int k a) = .returned (.int k b) := by rw [h]
theorem cell_kept {w w' : World} {a : Addr} {v : Value} (hb : Below w.heap.size w w') (h : w.cell? a = some v) : w'.cell? a = some v := by
  rw [hb.cell (World.block_lt_of_cell? w _ h)]; exact h

set_option maxHeartbeats 400000 in
/-- binary.BigEndian.Uint16 of two bytes. -/
theorem u16_calls (g o len cap : Nat) (b0 b1 : Int) (w : World) (h0a : 0 ≤ b0) (h0b : b0 < 256) (h1a : 0 ≤ b1) (h1b : b1 < 256) (hl : 2 ≤ len)
   (c0 : w.cell? ⟨g, o, none⟩ = some (.int .u8 b0)) (c1 : w.cell? ⟨g, o + 1, none⟩ = some (.int .u8 b1)) :
   Calls Yba.prog 7 #[.agg #[], .slice (some ⟨g, o, none⟩) len cap] w fun e w' => e = .returned (.int .u16 (b0 * 256 + b1)) ∧ Below w.heap.size w w' := by
  have hg : g < w.heap.size := World.block_lt_of_cell? w _ c0
  go_enter Yba.func7, Yba.ntmps7
  go_wp2_with fail
  go_quiet (fail)
  go_wp2_with fail
  go_ret
  exact ⟨ret_int (by rw [u16_or8 b1 (b0 * 256) h1a h1b (by omega) (by omega) (by omega)]; omega), ((Below.refl _ _).alloc (Nat.le_refl _) _).trans ⟨rfl, rfl, rfl, Nat.le_refl _, fun _ _ => rfl⟩⟩

set_option maxHeartbeats 400000 in
theorem ext_units (t : Int) (g o len cap : Nat) (b1 : Int) (w : World) (ht : t = 0 ∨ t = 43 ∨ t = 60) (h1a : 0 ≤ b1) (h1b : b1 < 256) (hl : 8 ≤ len)
   (c1 : w.cell? ⟨g, o + 1, none⟩ = some (.int .u8 b1)) :
   Calls Yba.prog 8 #[.int .u8 t, .slice (some ⟨g, o, none⟩) len cap] w fun e w' => e = .returned (.int .i64 ((b1 + 1) * 8)) ∧ Below w.heap.size w w' := by
  rcases ht with rfl | rfl | rfl
  all_goals
    go_enter Yba.func8, Yba.ntmps8
    go_wp2_with fail
    go_ret
    exact ⟨rfl, Below.refl _ _⟩

set_option maxHeartbeats 400000 in
theorem ext_auth (g o len cap : Nat) (b1 : Int) (w : World) (h1a : 0 ≤ b1) (h1b : b1 < 256) (hl : 8 ≤ len)
   (c1 : w.cell? ⟨g, o + 1, none⟩ = some (.int .u8 b1)) :
   Calls Yba.prog 8 #[.int .u8 51, .slice (some ⟨g, o, none⟩) len cap] w fun e w' => e = .returned (.int .i64 ((b1 + 2) * 4)) ∧ Below w.heap.size w w' := by
  go_enter Yba.func8, Yba.ntmps8
  go_wp2_with fail
  go_ret
  exact ⟨rfl, Below.refl _ _⟩

theorem and0 : (bits BinOp.and IntKind.u16 0 65529 != 0) = false := by decide
set_option maxHeartbeats 400000 in
theorem ext_frag (g o len cap : Nat) (w : World) (hl : 8 ≤ len) (hlc : len ≤ cap)
   (c2 : w.cell? ⟨g, o + 2, none⟩ = some (.int .u8 0)) (c3 : w.cell? ⟨g, o + 3, none⟩ = some (.int .u8 0)) :
   Calls Yba.prog 8 #[.int .u8 44, .slice (some ⟨g, o, none⟩) len cap] w fun e w' => e = .returned (.int .i64 8) ∧ Below w.heap.size w w' := by
  have hz := and0
  have hc4 : 4 ≤ (cap : Int) := by omega
  have hc2 : ¬ cap = 2 := by omega
  have hcall : ∀ d os cp, Calls Yba.prog 7 #[.agg #[], .slice (some ⟨g, o + 2, none⟩) 2 cp] (grow (redrawn w d) os) fun e w'' => e = .returned (.int .u16 0) ∧ ∃ p : Regrown, w'' = grow (redrawn w p.d) p.os :=
    fun d os cp => Calls.regrown_of (u16_calls g (o + 2) 2 cp 0 0 _ (by omega) (by omega) (by omega) (by omega) (by omega) (cell_regrown c2 d os) (cell_regrown c3 d os))
  go_enter Yba.func8, Yba.ntmps8
  go_wp2_with fail
  refine wp_region_quiet_below (by kernel_rfl) (by kernel_rfl) ?_
  repeat (quiet_step (exact hcall _ _ _))
  refine wpQuiet_nil ?_
  intro _ hw'
  obtain ⟨⟨dq, osq⟩, hw''⟩ := hw'
  subst hw''
  go_wp2_with fail
  go_ret
  exact ⟨rfl, below_regrown w dq osq⟩

/-- Header i of a chain of n extension headers in block g: its type is nx i, it lies at off i, its octet 2 is b1 i. -/
def Head (w : World) (g : Nat) (nx : Nat → Int) (off : Nat → Nat) (b1 : Nat → Int) (i : Nat) : Prop :=
  w.cell? ⟨g, off i, none⟩ = some (.int .u8 (nx (i + 1))) ∧ off i + 8 ≤ off (i + 1) ∧ 0 ≤ b1 i ∧ b1 i < 256 ∧
  (((nx i = 0 ∨ nx i = 43 ∨ nx i = 60) ∧ w.cell? ⟨g, off i + 1, none⟩ = some (.int .u8 (b1 i)) ∧ (off (i + 1) : Int) = off i + (b1 i + 1) * 8) ∨
   (nx i = 44 ∧ w.cell? ⟨g, off i + 2, none⟩ = some (.int .u8 0) ∧ w.cell? ⟨g, off i + 3, none⟩ = some (.int .u8 0) ∧ off (i + 1) = off i + 8) ∨
   (nx i = 51 ∧ w.cell? ⟨g, off i + 1, none⟩ = some (.int .u8 (b1 i)) ∧ (off (i + 1) : Int) = off i + (b1 i + 2) * 4))
theorem Head.kept {w w' : World} {g : Nat} {nx : Nat → Int} {off : Nat → Nat} {b1 : Nat → Int} {i : Nat} (h : Head w g nx off b1 i) (hb : Below w.heap.size w w') : Head w' g nx off b1 i := by
  obtain ⟨h1, h2, h3, h4, h5⟩ := h
  refine ⟨cell_kept hb h1, h2, h3, h4, ?_⟩
  rcases h5 with ⟨a, b, c⟩ | ⟨a, b, c, d⟩ | ⟨a, b, c⟩
  · exact .inl ⟨a, cell_kept hb b, c⟩
  · exact .inr (.inl ⟨a, cell_kept hb b, cell_kept hb c, d⟩)
  · exact .inr (.inr ⟨a, cell_kept hb b, c⟩)
theorem Head.not132 {w : World} {g : Nat} {nx : Nat → Int} {off : Nat → Nat} {b1 : Nat → Int} {i : Nat} (h : Head w g nx off b1 i) : nx i ≠ 132 := by
  obtain ⟨_, _, _, _, h5⟩ := h
  rcases h5 with ⟨a, b, c⟩ | ⟨a, b, c, d⟩ | ⟨a, b, c⟩ <;> omega

theorem ext_any (g len cap : Nat) (nx : Nat → Int) (off : Nat → Nat) (b1 : Nat → Int) (i : Nat) (w : World) (h : Head w g nx off b1 i) (hl : 8 ≤ len) (hlc : len ≤ cap) (sz : Nat) (hsz : off (i + 1) = off i + sz) :
    Calls Yba.prog 8 #[.int .u8 (nx i), .slice (some ⟨g, off i, none⟩) len cap] w fun e w' => e = .returned (.int .i64 sz) ∧ Below w.heap.size w w' := by
  obtain ⟨h1, h2, h3, h4, h5⟩ := h
  rcases h5 with ⟨a, b, c⟩ | ⟨a, b, c, d⟩ | ⟨a, b, c⟩
  · refine (ext_units (nx i) g (off i) len cap (b1 i) w a h3 h4 hl b).mono ?_
    rintro e w' ⟨rfl, hb⟩
    exact ⟨ret_int (by omega), hb⟩
  · rw [a]
    refine (ext_frag g (off i) len cap w hl hlc b c).mono ?_
    rintro e w' ⟨rfl, hb⟩
    exact ⟨ret_int (by omega), hb⟩
  · rw [a]
    refine (ext_auth g (off i) len cap (b1 i) w h3 h4 hl b).mono ?_
    rintro e w' ⟨rfl, hb⟩
    exact ⟨ret_int (by omega), hb⟩

set_option maxHeartbeats 1000000 in
/-- ipv6SCTP at a packet that is built as it should be: what lies behind the last header, as far as the payload length says. -/
theorem sctp_calls (g n len cap pl : Nat) (nx : Nat → Int) (off : Nat → Nat) (b1 : Nat → Int) (w : World) (hlc : len ≤ cap) (hcap : cap ≤ maxLen) (hpl : pl < 65536) (hlen : 40 + pl ≤ len)
    (h0 : off 0 = 40) (hn : off n ≤ 40 + pl) (hmono : ∀ i, i < n → off (i + 1) ≤ off n) (h132 : nx n = 132) (hh : ∀ i, i < n → Head w g nx off b1 i) (hnx : 0 ≤ nx 0 ∧ nx 0 < 256)
    (c0 : w.cell? ⟨g, 0, none⟩ = some (.int .u8 96)) (c4 : w.cell? ⟨g, 4, none⟩ = some (.int .u8 ((pl : Int) / 256))) (c5 : w.cell? ⟨g, 5, none⟩ = some (.int .u8 ((pl : Int) % 256))) (c6 : w.cell? ⟨g, 6, none⟩ = some (.int .u8 (nx 0))) :
    Calls Yba.prog 5 #[.slice (some ⟨g, 0, none⟩) len cap] w fun e w' => ∃ o c : Nat, e = .returned (.slice (some ⟨g, o, none⟩) (40 + pl - off n) c) ∧ (0 < 40 + pl - off n → o = off n) ∧ Below w.heap.size w w' := by
  unfold maxLen at hcap
  have hcall : ∀ d os cp, Calls Yba.prog 7 #[.agg #[], .slice (some ⟨g, 4, none⟩) 2 cp] (grow (redrawn w d) os) fun e w'' => e = .returned (.int .u16 ((pl : Int) / 256 * 256 + (pl : Int) % 256)) ∧ ∃ p : Regrown, w'' = grow (redrawn w p.d) p.os :=
    fun d os cp => Calls.regrown_of (u16_calls g 4 2 cp _ _ _ (by omega) (by omega) (by omega) (by omega) (by omega) (cell_regrown c4 d os) (cell_regrown c5 d os))
  rw [show (pl : Int) / 256 * 256 + (pl : Int) % 256 = (pl : Int) from by omega] at hcall
  have hc6 : 6 ≤ (cap : Int) := by omega
  have hc4 : ¬ cap = 4 := by omega
  have hl40 : ¬ (len : Int) < 40 := by omega
  have HM : Hid (∀ i, i < n → off (i + 1) ≤ off n) := hmono
  obtain ⟨C, hC⟩ : ∃ C, C = cap := ⟨_, rfl⟩
  have HC : Hid (C = cap) := hC
  have H40 : 40 ≤ off n := by
    by_cases e : n = 0
    · rw [e, h0]; exact Nat.le_refl _
    · have h1 := hmono 0 (by omega); obtain ⟨_, h2, _⟩ := hh 0 (by omega); omega
  clear hC
  have HH : Hid (∀ i, i < n → Head w g nx off b1 i) := hh
  have H132 : Hid (nx n = 132) := h132
  have H0 : Hid (off 0 = 40) := h0
  clear hmono hh h132 h0
  go_enter Yba.func5, Yba.ntmps5
  go_wp2_with fail
  refine wp_region_quiet_below (by kernel_rfl) (by kernel_rfl) ?_
  repeat (quiet_step (exact hcall _ _ _))
  refine wpQuiet_nil ?_
  intro _ hw'
  obtain ⟨⟨dq, osq⟩, hw''⟩ := hw'
  subst hw''
  have hbq := below_regrown w dq osq
  generalize grow (redrawn w dq) osq = w1 at *
  go_wp2_with fail
  all_goals
    go_loopw [3, 5] (fun a b wr => ∃ i o c : Nat, i ≤ n ∧ off i ≤ off n ∧ a = .int .u8 (nx i) ∧ b = .slice (some ⟨g, o, none⟩) (40 + pl - off i) c ∧ c + off i = C ∧ (0 < 40 + pl - off i → o = off i) ∧ Below w.heap.size w wr) (fun a b _ => match b with | .slice _ l _ => l | _ => 0)
    case atStart => 
      have hc := HC.out
      have h0 := H0.out
      first
        | exact ⟨0, 0, 0, by omega, by rw [H0.out]; omega, rfl, by rw [h0]; simp, by omega, by omega, hbq⟩
        | exact ⟨0, 40, cap - 40, by omega, by rw [H0.out]; omega, rfl, by rw [h0]; simp, by omega, by omega, hbq⟩
    case round =>
      obtain ⟨i, o, c, hi, hoi, rfl, rfl, hcc, ho, hb⟩ := hrel
      by_cases hin : i < n
      · have hhead := (HH.out i hin).kept hb
        obtain ⟨sz, hsz⟩ : ∃ sz, off (i + 1) = off i + sz := ⟨off (i + 1) - off i, by have := hhead.2.1; omega⟩
        have hge : 8 ≤ sz := by have := hhead.2.1; omega
        have hle : sz ≤ 40 + pl - off i := by have := HM.out i hin; omega
        have hoi2 : off (i + 1) ≤ off n := HM.out i hin
        obtain rfl : o = off i := ho (by omega)
        have hlc2 : 40 + pl - off i ≤ c := by have := HC.out; omega
        have h132 : (nx i != 132) = true := by simpa using hhead.not132
        have hcw := hhead.1
        have HEXT : Hid (∀ len cap, 8 ≤ len → len ≤ cap → Calls Yba.prog 8 #[.int .u8 (nx i), .slice (some ⟨g, off i, none⟩) len cap] wr fun e w' => e = .returned (.int .i64 sz) ∧ Below wr.heap.size wr w') :=
          fun len cap h1 h2 => ext_any g len cap nx off b1 i wr hhead h1 h2 sz hsz
        have HSZ : Hid (off (i + 1) = off i + sz) := hsz
        have hne0 : ((sz : Int) == 0) = false := by simp; omega
        clear hhead ho hsz
        go_wp2_with fail
        refine (HEXT.out _ _ (by omega) hlc2).mono ?_
        rintro e w2 ⟨rfl, hb2⟩
        have hcw2 : w2.cell? ⟨g, off i, none⟩ = some (.int .u8 (nx (i + 1))) := cell_kept hb2 hcw
        have hb3 : Below w.heap.size w w2 := hb.trans (hb2.mono hb.size)
        clear hcw hb2 HEXT
        have hszl : (sz : Int) ≤ ((40 + pl - off i : Nat) : Int) := by omega
        generalize hl : 40 + pl - off i = l at *
        have HL : Hid (40 + pl - off i = l) := hl
        clear hl
        by_cases hcs : c = sz
        · subst hcs
          go_wp2_with fail
          go_quiet (fail)
          go_wp2_with fail
          go_roundw
          case rel => exact ⟨i + 1, off i, 0, by omega, hoi2, rfl, by have h1 := HL.out; have h2 := HSZ.out; congr 1 <;> omega, by have h2 := HSZ.out; omega, fun h => by have h1 := HL.out; have h2 := HSZ.out; omega, hb3.trans ⟨rfl, rfl, rfl, Nat.le_refl _, fun _ _ => rfl⟩⟩
          case measure => have h1 := HL.out; simp; omega
        · go_wp2_with fail
          go_quiet (fail)
          go_wp2_with fail
          go_roundw
          case rel => exact ⟨i + 1, off i + sz, c - sz, by omega, hoi2, rfl, by have h1 := HL.out; have h2 := HSZ.out; congr 1 <;> omega, by have h2 := HSZ.out; omega, fun h => by have h2 := HSZ.out; omega, hb3.trans ⟨rfl, rfl, rfl, Nat.le_refl _, fun _ _ => rfl⟩⟩
          case measure => have h1 := HL.out; simp; omega
      · obtain rfl : i = n := by omega
        have h132 : (nx i != 132) = false := by rw [H132.out]; rfl
        go_wp2_with fail
        go_ret
        exact ⟨o, c, rfl, ho, hb⟩
end Go.Proofs.Ybulkcgio.Kit
