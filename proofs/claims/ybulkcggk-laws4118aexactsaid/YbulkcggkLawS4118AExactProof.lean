/-
  'Rows.LawS4118AExactSaid': (*inflater).take(k), k in 0..64, reads the k lowest bits, leaves the rest moved down, subtracts k from n; no other field turns.
  The contracts of take, zzs4118alow, zzs4118ahigh, then the law's walk, then the row's step (the tool's shell).
-/
import Derived.Test.YbulkcggkRows
import Derived.Test.YbulkcggkBitsPlain
import Derived.WalkKit
import Derived.ProofKit
import Derived.OpenShut
import Derived.ShutString
import Derived.Deep.QuietTactic
import Derived.BigQuiet
import Derived.WalkSpells
namespace Go.Proofs.Ybulkcggk.lawS4118AExact
open Go.ChangeShapes Go.WideShapes Go.ChangeAt Go.RowKit
open Go.ChangeMaps (open_string shut_string)
set_option linter.unusedVariables false

theorem own : ownKnob Yba.prog.godebug = none := by kernel_rfl

theorem ret_int {k : IntKind} {a b : Int} (h : a = b) : Ending.returned (.int k a) = .returned (.int k b) := by rw [h]
theorem val_int {k : IntKind} {a b : Int} (h : a = b) : Value.int k a = .int k b := by rw [h]

set_option maxHeartbeats 400000 in
theorem take_calls (z B k : Nat) (n : Int) (w : World) (hB : B < 18446744073709551616)
   (k1 : k ≤ 64) (hc2 : w.cell? ⟨z, 2, none⟩ = some (.int .u64 B)) (hc3 : w.cell? ⟨z, 3, none⟩ = some (.int .u64 n)) (hf2 : w.frozen? ⟨z, 2, none⟩ = false) (hf3 : w.frozen? ⟨z, 3, none⟩ = false) :
    Calls Yba.prog 7 #[.pointer (some ⟨z, 0, none⟩), .int .u64 k] w fun e w' => e = .returned (.int .i64 (wrap64 ((BitsPlain.lo B k : Nat) : Int))) ∧ w' = (w.setCell ⟨z, 2, none⟩ (.int .u64 ((BitsPlain.hi B k : Nat) : Int))).setCell ⟨z, 3, none⟩ (.int .u64 (IntKind.u64.wrap (n - k))) := by
  have hm : Hid (bits .and .u64 (B : Int) (IntKind.u64.wrap (IntKind.u64.wrap (2 ^ k) - 1)) = ((BitsPlain.lo B k : Nat) : Int)) := BitsPlain.mask' B k hB k1
  have hs : Hid ((B : Int) / 2 ^ k = ((BitsPlain.hi B k : Nat) : Int)) := BitsPlain.shr' B k
  go_enter Yba.func7, Yba.ntmps7
  go_wp2
  go_ret
  exact ⟨ret_int (by rw [hm.out]), by rw [hs.out]⟩

set_option maxHeartbeats 400000 in
theorem low_calls (B k : Nat) (w : World) (hB : B < 18446744073709551616) (k1 : k ≤ 64) :
    Calls Yba.prog 8 #[.int .u64 B, .int .u64 k] w fun e w' => e = .returned (.int .u64 ((BitsPlain.lo B k : Nat) : Int)) ∧ w' = w := by
  go_enter Yba.func8, Yba.ntmps8
  go_wp2
  go_loop [5, 6] (fun v i => ∃ m : Nat, m ≤ 64 ∧ i = .int .u64 m ∧ v = .int .u64 ((BitsPlain.low B k m : Nat) : Int)) (fun _ i => (64 - intOf i).toNat)
  case atStart => exact ⟨0, by omega, rfl, by rw [BitsPlain.low_zero]; rfl⟩
  case round =>
    obtain ⟨m, hm, rfl, rfl⟩ := hrel
    by_cases hlt : m < 64
    · by_cases hk : m < k
      · by_cases hbit : B / 2 ^ m % 2 = 1
        · have hb := BitsPlain.bit_yes B m hB hbit
          have hs : Hid (bits .or .u64 ((BitsPlain.low B k m : Nat) : Int) (IntKind.u64.wrap (2 ^ m)) = ((BitsPlain.low B k (m + 1) : Nat) : Int)) := BitsPlain.low_yes B k m hk hbit hlt
          clear hbit
          go_wp2
          go_round
          case rel => exact ⟨m + 1, by omega, by go_num, val_int hs.out⟩
          case measure => simp [intOf]; omega
        · have hb := BitsPlain.bit_no B m hB hbit
          have hs : Hid (BitsPlain.low B k (m + 1) = BitsPlain.low B k m) := BitsPlain.low_no B k m hk hbit
          clear hbit
          go_wp2
          go_round
          case rel => exact ⟨m + 1, by omega, by go_num, by rw [hs.out]⟩
          case measure => simp [intOf]; omega
      · have hs : Hid (BitsPlain.low B k (m + 1) = BitsPlain.low B k m) := BitsPlain.low_past B k m (by omega)
        go_wp2
        go_round
        case rel => exact ⟨m + 1, by omega, by go_num, by rw [hs.out]⟩
        case measure => simp [intOf]; omega
    · go_wp2
      go_ret
      exact ⟨ret_int (by rw [show m = 64 from by omega, BitsPlain.low_end' B k k1]), rfl⟩

set_option maxHeartbeats 400000 in
theorem high_calls (B k : Nat) (w : World) (hB : B < 18446744073709551616) (k1 : k ≤ 64) :
    Calls Yba.prog 9 #[.int .u64 B, .int .u64 k] w fun e w' => e = .returned (.int .u64 ((BitsPlain.hi B k : Nat) : Int)) ∧ w' = w := by
  go_enter Yba.func9, Yba.ntmps9
  go_wp2
  go_loop [5, 6] (fun v i => ∃ m : Nat, m ≤ 64 ∧ i = .int .u64 m ∧ v = .int .u64 ((BitsPlain.high B k m : Nat) : Int)) (fun _ i => (64 - intOf i).toNat)
  case atStart => exact ⟨0, by omega, rfl, by rw [BitsPlain.high_small B k 0 (by omega)]; rfl⟩
  case round =>
    obtain ⟨m, hm, rfl, rfl⟩ := hrel
    by_cases hlt : m < 64
    · by_cases hk : k ≤ m
      · obtain ⟨d, rfl⟩ : ∃ d, m = k + d := ⟨m - k, by omega⟩
        by_cases hbit : B / 2 ^ (k + d) % 2 = 1
        · have hb := BitsPlain.bit_yes B (k + d) hB hbit
          have hs : Hid (bits .or .u64 ((BitsPlain.high B k (k + d) : Nat) : Int) (IntKind.u64.wrap (2 ^ d)) = ((BitsPlain.high B k (k + d + 1) : Nat) : Int)) := by
            have h := BitsPlain.high_yes B k (k + d) hk hbit hlt
            rw [Nat.add_sub_cancel_left] at h
            exact h
          clear hbit
          go_wp2
          go_round
          case rel => exact ⟨k + d + 1, by omega, by go_num, val_int hs.out⟩
          case measure => simp [intOf]; omega
        · have hb := BitsPlain.bit_no B (k + d) hB hbit
          have hs : Hid (BitsPlain.high B k (k + d + 1) = BitsPlain.high B k (k + d)) := BitsPlain.high_no B k (k + d) hk hbit
          clear hbit
          go_wp2
          go_round
          case rel => exact ⟨k + d + 1, by omega, by go_num, by rw [hs.out]⟩
          case measure => simp [intOf]; omega
      · have hs : Hid (BitsPlain.high B k (m + 1) = BitsPlain.high B k m) := BitsPlain.high_under B k m (by omega)
        go_wp2
        go_round
        case rel => exact ⟨m + 1, by omega, by go_num, by rw [hs.out]⟩
        case measure => simp [intOf]; omega
    · go_wp2
      go_ret
      exact ⟨ret_int (by rw [show m = 64 from by omega, BitsPlain.high_end' B k hB]), rfl⟩

theorem wf_u64 {a : Int} (h : (Lit.int .u64 a).wf = true) : 0 ≤ a ∧ a < 18446744073709551616 := by
  simp [Lit.wf, IntKind.min, IntKind.max, IntKind.signed, IntKind.bits] at h; omega
theorem wf_u8 {a : Int} (h : (Lit.int .u8 a).wf = true) : 0 ≤ a ∧ a < 256 := by
  simp [Lit.wf, IntKind.min, IntKind.max, IntKind.signed, IntKind.bits] at h; omega

theorem z0 (h : 0 < Yba.zeroCells31.size) : Yba.zeroCells31[0] = .slice none 0 0 := by kernel_rfl
set_option maxHeartbeats 400000 in
set_option maxRecDepth 100000 in
theorem walk (a0 : Int) (a1 : Int) (a2 : Int) (a3 : Int) (a4 : Int) (w0 : (Lit.int .u64 a0).wf = true) (w1 : (Lit.int .u64 a1).wf = true) (w2 : (Lit.int .u8 a2).wf = true) (w3 : (Lit.int .i64 a3).wf = true) (w4 : (Lit.int .i64 a4).wf = true) (w : World) :
    Calls Yba.prog 3 #[.int .u64 a0, .int .u64 a1, .int .u8 a2, .int .i64 a3, .int .i64 a4] w fun e w' => e = .returned (.bool true) ∧ Grown w w' := by
  obtain ⟨b0, b1⟩ := wf_u64 w0
  obtain ⟨c0, c1⟩ := wf_u8 w2
  obtain ⟨B, rfl⟩ := Int.eq_ofNat_of_zero_le b0
  obtain ⟨s, rfl⟩ := Int.eq_ofNat_of_zero_le c0
  clear w0 w1 w2 w3 w4
  have hB : B < 18446744073709551616 := by omega
  obtain ⟨k, hk, hk64⟩ : ∃ k : Nat, ((s : Int) % 65) = (k : Int) ∧ k ≤ 64 := ⟨s % 65, by omega, by omega⟩
  have hz := z0
  have he := fun w => run_eql_nil_slice (P := Yba.prog) w 25 5 none 0 0 0 0 Yba.underlying25
  go_enter Yba.func3, Yba.ntmps3
  go_wp2_with fail
  refine (take_calls _ B k a1 _ hB hk64 (by simp [go_sem]) (by simp [go_sem]) (by simp [go_sem]) (by simp [go_sem])).mono ?_
  rintro e w' ⟨rfl, rfl⟩
  go_wp2_with fail
  refine (low_calls B k _ hB hk64).mono ?_
  rintro e w' ⟨rfl, rfl⟩
  go_wp2_with fail
  go_quiet ((go_at_call 9; exact Calls.quiet_of_same (high_calls B k _ hB hk64)))
  go_wp2_with fail
  go_ret
  exact ⟨rfl, by repeat (first | exact Grown.refl _ | apply Grown.drew | apply Grown.alloc)⟩

/-! ### THE ROW's STEP: WRITTEN OUT: LEAVE IT -/
set_option maxRecDepth 100000 in
theorem lifted (os : Os) (started : os.Started) (H : Type) (enc : TypeId × Value → H) :
    ReturnsInHanded {} Yba.checked os 3 .any (Rows.lawS4118AExactSpec.pre6 enc Yba.prog Yba.f3 Rows.lawS4118AExactRow.domain false) (Rows.lawS4118AExactSpec.post enc Yba.prog Yba.f3 false true false false) := by
  refine returnsInHanded_of_change (C := Yba.checked) own started (by kernel_rfl) Yba.func3
    (ChangeSpec.witness6 (enc := enc) (C := Yba.checked) false ⟨#[], #[.int .u64 0, .int .u64 0, .int .u8 0, .int .i64 0, .int .i64 0], []⟩ 8 (by kernel_rfl) (by kernel_rfl) (by kernel_rfl) (by kernel_rfl)) ?_
  intro W base args ds gs before hval0 hW hcnd _
  have hval : ∀ (j : Nat) t v, Yba.f3.params[j]? = some t → args[j]? = some v → Value.okWide Yba.prog W .any base t v := hval0
  have hW' := hW
  obtain ⟨p, q, hA0, hV, rfl, hfz, hnd⟩ := hW
  have hA : DataW.TrodAll enc Yba.prog W 0 (fun _ => true) true Yba.f3.params.toList args.toList ds p := hA0
  rw [Yba.params3] at hA hval
  obtain ⟨v0, vs0, d0, ds0, p0, q0, hargs, rfl, rfl, h0, r0⟩ := trodAll_cons hA
  obtain ⟨v1, vs1, d1, ds1, p1, q1, rfl, rfl, rfl, h1, r1⟩ := trodAll_cons r0
  obtain ⟨v2, vs2, d2, ds2, p2, q2, rfl, rfl, rfl, h2, r2⟩ := trodAll_cons r1
  obtain ⟨v3, vs3, d3, ds3, p3, q3, rfl, rfl, rfl, h3, r3⟩ := trodAll_cons r2
  obtain ⟨v4, vs4, d4, ds4, p4, q4, rfl, rfl, rfl, h4, r4⟩ := trodAll_cons r3
  obtain ⟨rfl, rfl, rfl⟩ := trodAll_nil r4
  obtain rfl : args = #[v0, v1, v2, v3, v4] := by cases args; simp_all
  obtain ⟨rfl, rfl⟩ := trodVars_none hV
  obtain ⟨a0, rfl, rfl, rfl, w0⟩ := open_int Yba.underlying22 (hval 0 22 v0 rfl rfl) h0
  obtain ⟨a1, rfl, rfl, rfl, w1⟩ := open_int Yba.underlying23 (hval 1 23 v1 rfl rfl) h1
  obtain ⟨a2, rfl, rfl, rfl, w2⟩ := open_int Yba.underlying5 (hval 2 5 v2 rfl rfl) h2
  obtain ⟨a3, rfl, rfl, rfl, w3⟩ := open_int Yba.underlying3 (hval 3 3 v3 rfl rfl) h3
  obtain ⟨a4, rfl, rfl, rfl, w4⟩ := open_int Yba.underlying3 (hval 4 3 v4 rfl rfl) h4
  clear hA0 hval0
  simp only [List.append_nil] at hW'
  refine (walk a0 a1 a2 a3 a4 w0 w1 w2 w3 w4 W).mono fun e W' ⟨he, hg⟩ => ?_
  subst he
  exact ⟨_, rfl, post_of_same (pa := []) (pv := []) hW' (fun _ _ _ => (trodAll_cons_mk (shut_bool Yba.underlying4 _) trodAll_mk0)) (fun sp _ => (trodAll_cons_mk (shut_int Yba.underlying22 w0) (trodAll_cons_mk (shut_int Yba.underlying23 w1) (trodAll_cons_mk (shut_int Yba.underlying5 w2) (trodAll_cons_mk (shut_int Yba.underlying3 w3) (trodAll_cons_mk (shut_int Yba.underlying3 w4) trodAll_mk0)))))) (fun _ _ => rfl) rfl
    (hg.frame _) hg.2.1 (ok_one (by kernel_rfl) rfl (okWide_bool_mk Yba.underlying4 _))⟩

theorem over : Rows.lawS4118AExactRow.holds Yba.pinned (OpenSpec.ofChange Rows.lawS4118AExactSpec) :=
  OpenClaim.holds_of_wide 3 Yba.f3 rfl rfl rfl rfl rfl rfl rfl ⟨rfl, rfl, rfl, rfl, rfl⟩ rfl rfl rfl rfl rfl (by kernel_rfl) Yba.func3 (by kernel_rfl)
    (of_decide_eq_true (by kernel_rfl)) (by unfold Func.isWrapper; first | (rw [if_pos (by decide +kernel)]; kernel_rfl) | (rw [if_neg (by decide +kernel)]; exact ⟨rfl, rfl⟩))
    (fun os started H enc _ => lifted os started H enc)

/-- ████ THE STATEMENT ████ -/
theorem proved : Rows.LawS4118AExactSaid :=
  over
#print axioms proved
end Go.Proofs.Ybulkcggk.lawS4118AExact
