import Derived.Test.YbulkcgioFmtCards
import Derived.Test.YbulkcgioFmtTie
import Derived.Test.YbulkcgioFmtLaw
import Derived.ProofKit
import Derived.OpenShut
import Derived.ChangeOld
import Derived.Deep.DeepWitnessRowRef
import Derived.Deep.DeepWitnessRef
import Derived.Lib.LaidIn
import Derived.Lay
import Derived.Stop.JoinedAt
import Derived.Stop.Texts
import Derived.Stop.JoinedTold
import Derived.Stop.LaidErr
import Derived.SevenTiedAt
namespace Go.Proofs.YbulkcgioFmt
open Go.ChangeShapes Go.WideShapes Go.ChangeAt Go.RowKit Go.Lib
open Go.Extern.Stop Go.Stop Go.Extern
set_option linter.unusedVariables false
set_option linter.unusedSimpArgs false

theorem own : ownKnob Ybaf.prog.godebug = none := by kernel_rfl
theorem laidOut : laidOutB Ybaf.prog = true := by kernel_rfl
theorem star : "*" ++ "errors.errorString" = "*errors.errorString" := by decide
theorem row60 (u : TypeId) (h : Ybaf.prog.typeName? 3 u = some "*errors.errorString") : u = 60 :=
  typeName_ptr_named (nm := "errors.errorString") (by rw [star]; kernel_rfl) (by kernel_rfl) (by decide) u (by rw [star]; exact h)

/-- A listed sentinel: where it lies, and that its row is whole. -/
theorem sentinel {n : String} {text : List UInt8} {r : List (String × DataW Unit)} {W : World} {g : Nat}
    (h : laidMet Ybaf.prog ((n, .iface "*errors.errorString" (.ptr (.agg [.lit (.string text)]))) :: r) W)
    (hg : Ybaf.prog.globalNamed n = some g) (ht : (Ybaf.prog.globals[g]?).map (·.type) = some 39) :
    ∃ (a : Addr) (s : ByteArray), W.cell? ⟨g, 0, none⟩ = some (.iface 60 (.pointer (some a))) ∧ W.cell? a = some (.string s) ∧ s.data.toList = text ∧ ∃ c t, W.heap[a.block]? = some (.cells c t (0, 0)) := by
  obtain ⟨ps, ⟨g0, t0, cs0, f0, p0, q0, hg0, ht0, hv0, hd0, _, e0⟩, _, hrows⟩ := h
  obtain rfl := Option.some.inj (hg.symm.trans hg0)
  obtain rfl := Option.some.inj (ht.symm.trans ht0)
  subst e0
  obtain ⟨l0⟩ := cs0
  have ok0 : ∀ u v, l0 = [.iface u v] → Value.okWide Ybaf.prog W .any 0 u v := fun u v e => by
    subst e
    exact (hrows g 0 (by simp [MemPlace.row])).2 u v (by simpa using World.var?_cell hg0 hv0 0)
  obtain ⟨a0, s0, rfl, hc0, hs0, hz0, rfl⟩ := errorString_of_trod Ybaf.underlying39 row60 Ybaf.underlying60 Ybaf.underlying62 rfl rfl Ybaf.underlying9 (by kernel_rfl) (by kernel_rfl) hd0 ok0
  refine ⟨a0, s0, by simpa using World.var?_cell hg0 hv0 0, hc0, hs0, (hrows a0.block a0.off (by simp [MemPlace.row])).1⟩

theorem sent_of {W : World} (h : laidMet Ybaf.prog Rows.lawS4122CReadDataRow.laid W) : ∃ e0 e1, Kit.Sent W W.heap.size e0 e1 := by
  have h' : laidMet Ybaf.prog [("io.ErrShortBuffer", Rows.laid_io_ErrShortBuffer), ("io.EOF", Rows.laid_io_EOF), ("io.ErrUnexpectedEOF", Rows.laid_io_ErrUnexpectedEOF)] W := h
  obtain ⟨a1, s1, hv1, hc1, hs1, hb1⟩ := sentinel (g := 1) h'.tail (by kernel_rfl) (by kernel_rfl)
  obtain ⟨a0, s0, hv0, hc0, hs0, hb0⟩ := sentinel (g := 0) h'.tail.tail (by kernel_rfl) (by kernel_rfl)
  refine ⟨a0, a1, hv0, hv1, block_lt_of_cell hv1, hb0, hb1, block_lt_of_cell hc0, block_lt_of_cell hc1, ?_⟩
  rintro rfl
  rw [hc0] at hc1
  cases hc1
  rw [hs0] at hs1
  cases hs1

/-! ### One start that fits -/
abbrev wArgs : Array Value := #[.slice none 0 0, .slice none 0 0, .int .u32 0, .bool false]
set_option maxRecDepth 1000000 in
theorem laid_met (os : Os) (args : Array Value) : laidMet Ybaf.prog Rows.lawS4122CReadDataRow.laid ((World.laidAll Ybaf.prog os Rows.lawS4122CReadDataRow.laid).forCall (fun _ _ => 0) ⟨#[], args, []⟩).memory :=
  laidMet_laidAll _ (by kernel_rfl) (by kernel_rfl)

theorem witness_row (os : Os) {H : Type} (enc : TypeId × Value → H) :
    (OpenSpec.ofChange Rows.lawS4122CReadDataSpec).preRow enc Ybaf.prog Ybaf.f3 Rows.lawS4122CReadDataRow.domain false Rows.lawS4122CReadDataRow.laid ((World.laidAll Ybaf.prog os Rows.lawS4122CReadDataRow.laid).forCall (fun _ _ => 0) ⟨#[], wArgs, []⟩).memory wArgs := by
  have hw : (DataW.whole enc Ybaf.prog ((World.laidAll Ybaf.prog os Rows.lawS4122CReadDataRow.laid).forCall (fun _ _ => 0) ⟨#[], wArgs, []⟩).memory Ybaf.f3.params.toList (OpenSpec.ofChange Rows.lawS4122CReadDataSpec).vars false wArgs.toList 8).map (fun x => (x.1, x.2.1)) =
      some ([.nil, .nil, .lit (.int .u32 0), .lit (.bool false)], []) := by kernel_rfl
  obtain ⟨⟨x1, x2, x3⟩, hx, hx1⟩ := Option.map_eq_some_iff.1 hw
  simp only [Prod.mk.injEq] at hx1
  obtain ⟨rfl, rfl⟩ := hx1
  exact OpenSpec.preRow_of_cond 8 hx (by kernel_rfl) (fun k hk => by cases hk) (by kernel_rfl) (laid_met os _)

/-- What the walk is told of a slice of octets that came in. -/
def IsRow (w : World) (a : Option Addr) (len cap : Nat) (zs : List Int) : Prop :=
  (a = none ∧ len = 0 ∧ cap = 0 ∧ zs = []) ∨
  ∃ x, a = some x ∧ len ≤ cap ∧ cap ≤ maxLen ∧ zs.length = cap ∧ (∀ i, i < zs.length → w.cell? (x.add i) = some (.int .u8 (zs.getD i 0))) ∧ ∀ n ∈ zs, (Lit.int .u8 n).wf = true
theorem wf_u8 {a : Int} (h : (Lit.int .u8 a).wf = true) : 0 ≤ a ∧ a < 256 := by
  simp [Lit.wf, IntKind.min, IntKind.max, IntKind.signed, IntKind.bits] at h; omega
theorem wf_u32 {a : Int} (h : (Lit.int .u32 a).wf = true) : 0 ≤ a ∧ a ≤ 4294967295 := by
  simp [Lit.wf, IntKind.min, IntKind.max, IntKind.signed, IntKind.bits] at h; omega
theorem IsRow.le {w : World} {a : Option Addr} {len cap : Nat} {zs : List Int} (h : IsRow w a len cap zs) : len ≤ cap := by
  rcases h with ⟨_, rfl, rfl, _⟩ | ⟨_, _, h, _⟩ <;> omega
theorem IsRow.nil {w : World} {a : Option Addr} {len cap : Nat} {zs : List Int} (h : IsRow w a len cap zs) : a = none → cap = 0 := by
  rcases h with ⟨_, _, h, _⟩ | ⟨x, h, _⟩
  · exact fun _ => h
  · intro e; rw [h] at e; cases e
theorem IsRow.bytes {w : World} {a : Option Addr} {len cap : Nat} {zs : List Int} (h : IsRow w a len cap zs) : ∀ j, 0 ≤ zs.getD j 0 ∧ zs.getD j 0 < 256 := by
  intro j
  rcases h with ⟨_, _, _, rfl⟩ | ⟨x, _, _, _, _, _, h⟩
  · simp
  · rw [List.getD_eq_getElem?_getD]
    cases hq : zs[j]? with
    | none => simp
    | some v => exact wf_u8 (h v (List.mem_of_getElem? hq))
theorem IsRow.src {w : World} {a : Option Addr} {len cap : Nat} {zs : List Int} (h : IsRow w a len cap zs) : Kit.Src w w.heap.size len a zs := by
  intro j hj
  rcases h with ⟨_, rfl, _⟩ | ⟨x, rfl, h1, _, h2, h3, _⟩
  · omega
  · have := h3 j (by omega)
    exact ⟨x, rfl, by rw [← Kit.add_block x j]; exact block_lt_of_cell this, this⟩

set_option maxRecDepth 100000 in
set_option maxHeartbeats 4000000 in
theorem lifted (os : Os) (started : os.Started) (H : Type) (enc : TypeId × Value → H) :
    ReturnsInTold none {} Ybaf.checked os 3 .any Input.okWide ((OpenSpec.ofChange Rows.lawS4122CReadDataSpec).preRow enc Ybaf.prog Ybaf.f3 Rows.lawS4122CReadDataRow.domain false Rows.lawS4122CReadDataRow.laid) (fun F => ((OpenSpec.ofChange Rows.lawS4122CReadDataSpec).at F).post enc Ybaf.prog Ybaf.f3 false true false false) (aloneAtReturn Ybaf.prog) nothingAlways := by
  refine returnsInTold_of_row (C := Ybaf.checked) (s := OpenSpec.ofChange Rows.lawS4122CReadDataSpec) (by kernel_rfl) own started (by kernel_rfl) Ybaf.func3
    (OpenSpec.witness_stopped_atRef (enc := enc) (C := Ybaf.checked) false (World.laidAll Ybaf.prog os Rows.lawS4122CReadDataRow.laid) wArgs (World.laidAll_os _ _ _) (by kernel_rfl) (by kernel_rfl) (by kernel_rfl) (witness_row os enc)) ?_
  intro F W base args ds gs before _ hF hval0 hW hcnd0 _ _ hL _
  have hval : ∀ (j : Nat) t v, Ybaf.f3.params[j]? = some t → args[j]? = some v → Value.okWide Ybaf.prog W .any base t v := hval0
  have hW' := hW
  obtain ⟨p, q, hA0, hV, rfl, hfz, hnd⟩ := hW
  have hA : DataW.TrodAll enc Ybaf.prog W 0 (fun _ => true) true Ybaf.f3.params.toList args.toList ds p := hA0
  rw [Ybaf.params3] at hA hval
  obtain ⟨v0, vs0, d0, ds0, p0, q0, hargs, rfl, rfl, h0, r0⟩ := trodAll_cons hA
  obtain ⟨v1, vs1, d1, ds1, p1, q1, rfl, rfl, rfl, h1, r1⟩ := trodAll_cons r0
  obtain ⟨v2, vs2, d2, ds2, p2, q2, rfl, rfl, rfl, h2, r2⟩ := trodAll_cons r1
  obtain ⟨v3, vs3, d3, ds3, p3, q3, rfl, rfl, rfl, h3, r3⟩ := trodAll_cons r2
  obtain ⟨rfl, rfl, rfl⟩ := trodAll_nil r3
  obtain rfl : args = #[v0, v1, v2, v3] := by cases args; simp_all
  obtain ⟨rfl, rfl⟩ := trodVars_none hV
  obtain ⟨a0, len0, cap0, rfl⟩ := okWide_slice Ybaf.underlying22 (hval 0 22 v0 rfl rfl)
  have k0 := h0
  have lt0 : ∀ x ∈ p0, x.block < W.heap.size := by obtain ⟨m, hm⟩ := k0; exact DataW.trod_lt m _ _ _ hm
  obtain ⟨z0, w0⟩ : ∃ zs, IsRow W a0 len0 cap0 zs := by
    obtain ⟨fuel, hf⟩ := h0
    rcases open_ints Ybaf.underlying22 Ybaf.underlying5 (by kernel_rfl) hf with ⟨hcs, _⟩ | ⟨x, l, c, zs, hcs, _, hl, hm, hz, _, hcell, hwz⟩
    · simp [Value.cells] at hcs
      obtain ⟨rfl, rfl, rfl⟩ := hcs
      exact ⟨[], .inl ⟨rfl, rfl, rfl, rfl⟩⟩
    · simp [Value.cells] at hcs
      obtain ⟨rfl, rfl, rfl⟩ := hcs
      exact ⟨zs, .inr ⟨_, rfl, hl, hm, by simpa using hz, hcell, hwz⟩⟩
  obtain ⟨a1, len1, cap1, rfl⟩ := okWide_slice Ybaf.underlying22 (hval 1 22 v1 rfl rfl)
  have k1 := h1
  have lt1 : ∀ x ∈ p1, x.block < W.heap.size := by obtain ⟨m, hm⟩ := k1; exact DataW.trod_lt m _ _ _ hm
  obtain ⟨z1, w1⟩ : ∃ zs, IsRow W a1 len1 cap1 zs := by
    obtain ⟨fuel, hf⟩ := h1
    rcases open_ints Ybaf.underlying22 Ybaf.underlying5 (by kernel_rfl) hf with ⟨hcs, _⟩ | ⟨x, l, c, zs, hcs, _, hl, hm, hz, _, hcell, hwz⟩
    · simp [Value.cells] at hcs
      obtain ⟨rfl, rfl, rfl⟩ := hcs
      exact ⟨[], .inl ⟨rfl, rfl, rfl, rfl⟩⟩
    · simp [Value.cells] at hcs
      obtain ⟨rfl, rfl, rfl⟩ := hcs
      exact ⟨zs, .inr ⟨_, rfl, hl, hm, by simpa using hz, hcell, hwz⟩⟩
  obtain ⟨t, rfl, rfl, rfl, wt⟩ := open_int Ybaf.underlying23 (hval 2 23 v2 rfl rfl) h2
  obtain ⟨bb, rfl, rfl, rfl⟩ := open_bool Ybaf.underlying4 (hval 3 4 v3 rfl rfl) h3
  clear hA0 hval0
  obtain ⟨e0, e1, hs⟩ := sent_of (W := W) hL
  refine (Kit.law_calls F.told a0 a1 len0 cap0 len1 cap1 z0 z1 t bb e0 e1 W hF w0.le w0.nil (wf_u32 wt).1 (wf_u32 wt).2 w0.src w0.bytes (fun j hj => by obtain ⟨x, hx, _, hc⟩ := w1.src j hj; exact ⟨x, hx, hc⟩) hs).mono fun e W' ⟨he, bel⟩ => ?_
  subst he
  exact ⟨_, rfl, _, _, _, [], _, [], hW', trodAll_mk1 (shut_bool Ybaf.underlying4 _), (trodAll_cons_mk (Below.trod laidOut (by kernel_rfl) (of_decide_eq_true (by kernel_rfl)) k0 bel lt0) (trodAll_cons_mk (Below.trod laidOut (by kernel_rfl) (of_decide_eq_true (by kernel_rfl)) k1 bel lt1) (trodAll_cons_mk (shut_int Ybaf.underlying23 wt) (trodAll_cons_mk (shut_bool Ybaf.underlying4 _) trodAll_mk0)))), rfl, bel.frame _, fun h => by cases h⟩

theorem stopsAre : Ybaf.pinned.checked.prog.stops = ["fmt.errorf"] := by kernel_rfl
theorem stopKnobs : Ybaf.pinned.checked.prog.stopKnobs = [] := by kernel_rfl
theorem quiet (os : Os) : Stop.quiet Ybaf.pinned.checked.prog os := by
  intro k hk
  rw [stopKnobs] at hk
  cases hk

/-- ████ THE STATEMENT ████ -/
theorem proved : Rows.LawS4122CReadDataToldSaid :=
  Claim7.holds_of_told_tied_any_at .later (c := Rows.lawS4122CReadDataRow) 3 Ybaf.f3 "fmt.errorf" [] [] _ _ _ _ _ (by kernel_rfl) rfl rfl rfl laidOut (by kernel_rfl) rfl ⟨rfl, rfl, rfl, rfl, rfl, rfl, rfl⟩ rfl rfl (by kernel_rfl) (by kernel_rfl) Ybaf.func3 (by kernel_rfl)
    (of_decide_eq_true (by kernel_rfl)) (of_decide_eq_true (by kernel_rfl)) stopsAre.symm rfl stopKnobs.symm (by kernel_rfl)
    (by kernel_rfl) (by kernel_rfl) (by kernel_rfl) (by kernel_rfl) (by kernel_rfl) (by kernel_rfl) (by kernel_rfl) (by kernel_rfl) (by kernel_rfl) rfl (by kernel_rfl) rfl rfl
    rfl rfl
    rfl (by kernel_rfl) (by kernel_rfl) (by kernel_rfl) (by decide) (by kernel_rfl) lawS4122CReadData_row_tie
    (OpenClaim.moreEntering_of (by kernel_rfl) (by kernel_rfl) (by kernel_rfl) (by kernel_rfl) (by kernel_rfl) (by kernel_rfl) (by kernel_rfl) (by kernel_rfl) (by kernel_rfl) (by kernel_rfl))
    ⟨_, WideRow.started_initial, quiet _⟩
    (fun os started _ H enc _ => lifted os started H enc)

end Go.Proofs.YbulkcgioFmt
