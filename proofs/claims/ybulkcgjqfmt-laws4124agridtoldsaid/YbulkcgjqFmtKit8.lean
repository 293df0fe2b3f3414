import Derived.Test.YbulkcgjqFmtKit5
namespace Go.Proofs.YbulkcgjqFmt
set_option linter.unusedSimpArgs false
set_option linter.unusedVariables false
open Go.ChangeShapes Go.WideShapes Go.ChangeAt Go.RowKit Go.Sort

/-- check's own list. -/
structure Ck (w wr : World) (gb nE cE : Nat) : Prop where
  l0 : wr.cell? ⟨w.heap.size, 0, none⟩ = some (.string { data := #[101, 108, 101, 109, 101, 110, 116] })
  l1 : wr.cell? ⟨w.heap.size, 1, none⟩ = some (.int .i64 2)
  l2 : wr.cell? ⟨w.heap.size, 2, none⟩ = some (.slice (some ⟨gb, 0, none⟩) nE cE)
  l3 : wr.cell? ⟨w.heap.size, 3, none⟩ = some (.string { data := #[102, 97, 99, 101, 116] })
  l4 : wr.cell? ⟨w.heap.size, 4, none⟩ = some (.int .i64 1)
  l5 : wr.cell? ⟨w.heap.size, 5, none⟩ = some (.slice none 0 0)
  bel : Below w.heap.size w wr
  lt : w.heap.size < wr.heap.size
theorem Ck.kept {w wr wq : World} {gb nE cE : Nat} (h : Ck w wr gb nE cE) (hb : Below wr.heap.size wr wq) : Ck w wq gb nE cE := by
  have c : ∀ i, wq.cell? ⟨w.heap.size, i, none⟩ = wr.cell? ⟨w.heap.size, i, none⟩ := fun i => hb.cell (p := ⟨w.heap.size, i, none⟩) h.lt
  exact ⟨(c _).trans h.l0, (c _).trans h.l1, (c _).trans h.l2, (c _).trans h.l3, (c _).trans h.l4, (c _).trans h.l5, h.bel.trans (hb.mono h.bel.size), Nat.lt_of_lt_of_le h.lt hb.size⟩

theorem Ck.start (w : World) (gb nE cE : Nat) (W : World) (e : W = (w.alloc (.cells #[.string { data := #[101, 108, 101, 109, 101, 110, 116] }, .int .i64 2, .slice (some ⟨gb, 0, none⟩) nE cE, .string { data := #[102, 97, 99, 101, 116] }, .int .i64 1, .slice none 0 0] 130)).drew) : Ck w W gb nE cE := by
  have c : ∀ i, W.cell? ⟨w.heap.size, i, none⟩ = (#[.string { data := #[101, 108, 101, 109, 101, 110, 116] }, .int .i64 2, .slice (some ⟨gb, 0, none⟩) nE cE, .string { data := #[102, 97, 99, 101, 116] }, .int .i64 1, .slice none 0 0] : Array Value)[i]? := fun i => by
    rw [e]
    show (w.alloc _).cell? _ = _
    simp only [World.cell?]; rw [heap_alloc_new]; rfl
  exact ⟨c 0, c 1, c 2, c 3, c 4, c 5, by rw [e]; exact (Below.alloc (Below.refl _ _) (Nat.le_refl _) _).drew, by rw [e]; simp⟩
/-- The list's entry in check's loop. -/
structure Ci (w wr wq : World) (gb nE cE : Nat) (d s : Value) : Prop where
  ck : Ck w wq gb nE cE
  v1 : wq.cell? ⟨wr.heap.size, 1, none⟩ = some d
  v2 : wq.cell? ⟨wr.heap.size, 2, none⟩ = some s
  lt : wr.heap.size < wq.heap.size
theorem Ci.start {w wr : World} {gb nE cE : Nat} (h : Ck w wr gb nE cE) (t d s : Value) (ty : TypeId) (W : World) (e : W = wr.alloc (.cells #[t, d, s] ty)) : Ci w wr W gb nE cE d s := by
  have c : ∀ i, W.cell? ⟨wr.heap.size, i, none⟩ = (#[t, d, s] : Array Value)[i]? := fun i => by
    rw [e]; simp only [World.cell?]; rw [heap_alloc_new]; rfl
  exact ⟨h.kept (by rw [e]; exact Below.alloc (Below.refl _ _) (Nat.le_refl _) _), c 1, c 2, by rw [e]; simp⟩
theorem Ci.kept {w wr wq wz : World} {gb nE cE : Nat} {d s : Value} (h : Ci w wr wq gb nE cE d s) (hb : Below wq.heap.size wq wz) : Ci w wr wz gb nE cE d s :=
  ⟨h.ck.kept hb, (hb.cell (p := ⟨wr.heap.size, 1, none⟩) h.lt).trans h.v1, (hb.cell (p := ⟨wr.heap.size, 2, none⟩) h.lt).trans h.v2, Nat.lt_of_lt_of_le h.lt hb.size⟩

set_option maxRecDepth 10000 in
set_option maxHeartbeats 1000000 in
theorem check_calls (B Mb gb nb cE nE N : Nat) (cn : Nat → Nat → Nat) (k : KP) (w : World) (hB : B ≤ w.heap.size) (hK : Kn w B k) (h : Mh w B Mb gb nb cE nE N cn) (hc : ∀ e c, e < nE → c < 4 → cn e c < N) (hN : N ≤ 1000) (hE : nE ≤ 1000) :
    Calls Ybaf.prog 22 #[.pointer (some ⟨Mb, 0, none⟩)] w fun e w' => e = .returned .nilIface ∧ Below w.heap.size w w' := by
  have c0 := h.c0
  have c1 := h.c1
  have c2 := h.c2
  have c3 := h.c3
  have c5 := h.c5
  have HH := hide' (And.intro hB (And.intro hK (And.intro h hc)))
  have d1 : decide ((2147483647 : Int) < N) = false := by simp; omega
  have d2 : decide ((2147483647 : Int) < nE) = false := by simp; omega
  clear hB hK h hc
  go_enter Ybaf.func22, Ybaf.ntmps22
  go_wp2_with fail
  go_region
  all_goals go_wp2_with fail
  have HS := hide' (Ck.start w gb nE cE _ rfl)
  go_loopg [78] 2 (fun g s78 wr => ((s78 = .int .i64 0 ∧ g = 2) ∨ (s78 = .int .i64 1 ∧ g = 1) ∨ (s78 = .int .i64 2 ∧ g = 0)) ∧ Hid (Ck w wr gb nE cE))
  case atStart => exact ⟨.inl ⟨rfl, rfl⟩, HS.out⟩
  case round =>
    obtain ⟨hcase, HC⟩ := hrel
    clear HS
    have l0 := HC.out.l0
    have l1 := HC.out.l1
    have l2 := HC.out.l2
    have l3 := HC.out.l3
    have l4 := HC.out.l4
    have l5 := HC.out.l5
    rcases hcase with ⟨rfl, rfl⟩ | ⟨rfl, rfl⟩ | ⟨rfl, rfl⟩
    · go_wp2_with fail
      have HI := hide' (Ci.start HC.out (.string { data := #[101, 108, 101, 109, 101, 110, 116] }) (.int .i64 2) (.slice (some ⟨gb, 0, none⟩) nE cE) 130 _ rfl)
      go_loopg [85] nE (fun g s85 wq => ∃ i : Nat, s85 = .int .i64 i ∧ i ≤ nE ∧ g = nE - i ∧ Hid (Ci w wr wq gb nE cE (.int .i64 2) (.slice (some ⟨gb, 0, none⟩) nE cE)))
      case atStart => exact ⟨0, rfl, by omega, by omega, HI.out⟩
      case round =>
        clear HI
        obtain ⟨i, rfl, hi, hg, HI⟩ := hrel
        have HG := hide' hg
        clear hg
        have v1 := HI.out.v1
        have v2 := HI.out.v2
        by_cases hlt : i < nE
        · have hlt2 : decide ((i : Int) < nE) = true := by simp; omega
          have hbb := HI.out.ck.bel.mono HH.out.1
          have hk := HH.out.2.1.kept hbb
          have hm := HH.out.2.2.1.kept hbb
          have ki := hm.kind i hlt
          have HM := hide' hm
          have HK := hide' hk
          clear hk hm hbb
          go_wp2_with fail
          go_quiet ((go_at_call 38; exact Calls.quiet_of_same (dim_calls _ B k (HK.out.kept ⟨rfl, rfl, rfl, Nat.le_refl _, fun _ _ => rfl⟩))))
          go_wp2_with fail
          obtain ⟨w5, hw5⟩ : ∃ w5, w5 = wr.drewN nq := ⟨_, rfl⟩
          rw [← hw5]
          have hb5 : Below wr.heap.size wr w5 := by rw [hw5]; exact ⟨rfl, rfl, rfl, Nat.le_refl _, fun _ _ => rfl⟩
          have ki5 : w5.cell? ⟨gb, i * 11 + 2, none⟩ = some (.int .u8 4) := by rw [hw5]; exact ki
          have HI5 := hide' (HI.out.kept hb5)
          have HK5 := hide' (HK.out.kept (hb5.mono (Nat.le_trans HH.out.1 HI.out.ck.bel.size)))
          have HM5 := hide' (HM.out.kept (hb5.mono (Nat.le_trans HH.out.1 HI.out.ck.bel.size)))
          clear hw5 ki v1 v2 hb5 HK HM
          go_quiet ((go_at_call 39; exact Calls.quiet_of_same (corners_calls _ B k (HK5.out.kept ⟨rfl, rfl, rfl, Nat.le_refl _, fun _ _ => rfl⟩))))
          all_goals (
            go_wp2_with fail
            go_loopg [128] 4 (fun g s128 wz => ∃ c : Nat, s128 = .int .i64 c ∧ c ≤ 4 ∧ g = 4 - c ∧ Hid (∃ q, wz = w5.drewN q))
            case atStart => exact ⟨0, rfl, by omega, by omega, _, rfl⟩
            case round =>
              obtain ⟨c, rfl, hcl, hg, HW⟩ := hrel
              obtain ⟨qq, hqq⟩ := HW.out
              subst hqq
              have HG3 := hide' hg
              clear hg HW
              by_cases hlt3 : c < 4
              · have hlt4 : decide ((c : Int) < 4) = true := by simp; omega
                have cc := HM5.out.corner i c hlt hlt3
                have cm := HM5.out.c1
                have hcN := HH.out.2.2.2 i c hlt hlt3
                have hx1 : decide ((cn i c : Int) < 0) = false := by simp
                have hx2 : decide ((N : Int) ≤ (cn i c : Int)) = false := by simp; omega
                have hx3 : ¬ ((N : Int) ≤ (cn i c : Int)) := by omega
                have HX := hide' hcN
                clear hcN
                generalize cn i c = v at *
                go_wp2_with fail
                go_roundg (4 - (c + 1))
                case measure => have := HG3.out; omega
                case rel => exact ⟨c + 1, by push_cast; rfl, by omega, rfl, _, rfl⟩
              · obtain rfl : c = 4 := by omega
                go_wp2_with fail
                go_roundg (nE - (i + 1))
                case measure => have := HG.out; omega
                case rel => exact ⟨i + 1, by push_cast; rfl, by omega, rfl, HI5.out.kept ⟨rfl, rfl, rfl, Nat.le_refl _, fun _ _ => rfl⟩⟩)
        · obtain rfl : i = nE := by omega
          have hlt2 : decide ((i : Int) < i) = false := by simp
          go_wp2_with fail
          go_roundg 1
          case measure => omega
          case rel => exact ⟨.inr (.inl ⟨rfl, rfl⟩), HI.out.ck⟩
    · go_wp2_with fail
      have HI := hide' (Ci.start HC.out (.string { data := #[102, 97, 99, 101, 116] }) (.int .i64 1) (.slice none 0 0) 130 _ rfl)
      go_loopg [85] 0 (fun g s85 wq => s85 = .int .i64 0 ∧ Hid (Ci w wr wq gb nE cE (.int .i64 1) (.slice none 0 0)))
      case atStart => exact ⟨rfl, HI.out⟩
      case round =>
        clear HI
        obtain ⟨rfl, HI⟩ := hrel
        go_wp2_with fail
        go_roundg 0
        case measure => omega
        case rel => exact ⟨.inr (.inr ⟨rfl, rfl⟩), HI.out.ck⟩
    · have c5' := (HH.out.2.2.1.kept (HC.out.bel.mono HH.out.1)).c5
      go_wp2_with fail
      go_loopg [170] 0 (fun g s170 wq => s170 = .int .i64 0 ∧ Hid (wq = wr))
      case atStart => exact ⟨rfl, rfl⟩
      case round =>
        obtain ⟨rfl, HW⟩ := hrel
        obtain rfl := HW.out
        clear HW
        go_wp2_with fail
        go_ret
        exact ⟨rfl, HC.out.bel⟩
end Go.Proofs.YbulkcgjqFmt
