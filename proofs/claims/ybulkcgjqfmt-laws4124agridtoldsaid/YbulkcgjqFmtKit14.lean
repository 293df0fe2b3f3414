import Derived.Test.YbulkcgjqFmtKit11
import Derived.Test.YbulkcgjqFmtKit13
namespace Go.Proofs.YbulkcgjqFmt
set_option linter.unusedSimpArgs false
set_option linter.unusedVariables false
open Go.ChangeShapes Go.WideShapes Go.ChangeAt Go.RowKit Go.Sort

/-- The unsorted faces as they are laid. -/
structure Un (w wr : World) (n cap : Nat) (l : List En) : Prop where
  own : wr.ownsRow w.heap.size 117 6 (.slice (some ⟨w.heap.size, 0, none⟩) n cap) n (EL l)
  bel : Below w.heap.size w wr
theorem Un.start (w : World) (n : Nat) (hn : n ≤ 10000) : Un w (w.alloc (.cells (madeCells ZC (n * 6)) 117)) 0 n [] :=
  ⟨World.ownsRow_made w _ n (Nat.le_refl _) (by unfold maxLen; omega) (by rw [size_madeCells]), Below.alloc (Below.refl _ _) (Nat.le_refl _) _⟩
theorem owns_kept {w w' : World} {base n : Nat} {e : TypeId} {size : Nat} {v : Value} {xs : List Value} (h : w.ownsRow base e size v n xs) (hb : Below w.heap.size w w') : w'.ownsRow base e size v n xs := by
  obtain ⟨h1, h2⟩ := h
  refine ⟨h1, ?_⟩
  rcases h2 with h2 | ⟨g, cap, cur, hv, hg, hh, r⟩
  · exact .inl h2
  · refine .inr ⟨g, cap, cur, hv, hg, (hb.block g ?_).trans hh, r⟩
    rcases Nat.lt_or_ge g w.heap.size with h | h
    · exact h
    · rw [Array.getElem?_eq_none h] at hh; cases hh
theorem Un.step {w wr w1 w2 : World} {n cap : Nat} {l : List En} {y : En} {o : Obj} (h : Un w wr n cap l) (hb : Below wr.heap.size wr w1) (hown : w2.ownsRow w.heap.size 117 6 (.slice (some ⟨w.heap.size, 0, none⟩) (n + 1) cap) (n + 1) (EL (l ++ [y]))) (hg : (w1.alloc o).grownBy w2 (some w.heap.size)) : Un w w2 (n + 1) cap (l ++ [y]) := by
  have s0 := h.bel.size
  have s1 := hb.size
  refine ⟨hown, (Below.alloc (h.bel.trans (hb.mono s0)) (by omega) o).grown hg (by simp; omega) (fun j hj => ?_)⟩
  cases hj; exact Nat.le_refl _
theorem six (w : World) (y : En) (t : TypeId) (arr : Array Value) (ha : arr = (enc y).toArray) : ∀ j u, (enc y)[j]? = some u → (w.alloc (.cells arr t)).cell? ((⟨w.heap.size, 0, none⟩ : Addr).add j) = some u := by
  intro j u hu
  have hadd : (⟨w.heap.size, 0, none⟩ : Addr).add j = ⟨w.heap.size, j, none⟩ := by unfold Addr.add; split <;> simp_all
  rw [hadd]
  simp only [World.cell?]; rw [heap_alloc_new, ha]
  simpa using hu

/-- The counts beside the unsorted faces. -/
structure X4 (w wq : World) (xb : Nat) (U : List En) (l : List Nat) : Prop where
  rn : RN wq xb l
  re : RE wq w.heap.size U
  bel : Below w.heap.size w wq
  lt : w.heap.size < xb
theorem X4.start {w wr : World} {n cap : Nat} {l : List En} (h : Un w wr n cap l) (N : Nat) : X4 w (wr.alloc (.cells (madeCells #[.int .i64 0] (N + 1)) 3)) wr.heap.size l (List.replicate (N + 1) 0) := by
  have hlt := (h.own.lt w.heap.size rfl).2
  exact ⟨RN.start wr (N + 1), (owns_re h.own).kept (Below.alloc (Below.refl _ _) (Nat.le_refl _) _) hlt, Below.alloc h.bel h.bel.size _, hlt⟩
theorem X4.drew {w wq : World} {xb : Nat} {U : List En} {l : List Nat} (h : X4 w wq xb U l) : X4 w wq.drew xb U l :=
  ⟨h.rn.kept (Below.refl wq.heap.size wq).drew h.rn.lt, h.re.kept (Below.refl wq.heap.size wq).drew h.re.lt, h.bel.drew, h.lt⟩
theorem X4.set {w wq : World} {xb : Nat} {U : List En} {l : List Nat} (h : X4 w wq xb U l) (i : Nat) (hi : i < l.length) (x : Nat) : X4 w (wq.setCell ⟨xb, i, none⟩ (.int .i64 x)) xb U (l.set i x) :=
  ⟨h.rn.set i hi x, h.re.other (by have := h.lt; omega), h.bel.setCell (p := ⟨xb, i, none⟩) (by show w.heap.size ≤ xb; have := h.lt; omega) _, h.lt⟩

/-- The entries as they are placed. -/
structure X6 (w wq : World) (xb eb : Nat) (U : List En) (s : List Nat × List (Option En)) : Prop where
  x4 : X4 w wq xb U s.1
  ro : RO wq eb s.2
  ne : eb ≠ xb
  lt : w.heap.size < eb
theorem X6.start {w wr : World} {xb : Nat} {U : List En} {l : List Nat} (h : X4 w wr xb U l) (n : Nat) : X6 w (wr.alloc (.cells (madeCells ZC (n * 6)) 117)) xb wr.heap.size U (l, List.replicate n none) := by
  have hb : Below wr.heap.size wr (wr.alloc (.cells (madeCells ZC (n * 6)) 117)) := Below.alloc (Below.refl _ _) (Nat.le_refl _) _
  have h1 := h.rn.lt
  exact ⟨⟨h.rn.kept hb h.rn.lt, h.re.kept hb h.re.lt, h.bel.trans (hb.mono h.bel.size), h.lt⟩, RO.start wr n, by omega, by have := h.re.lt; omega⟩
theorem X6.step {w wq : World} {xb eb : Nat} {U : List En} {s : List Nat × List (Option En)} (h : X6 w wq xb eb U s) (kk : Nat) (hk : kk < s.1.length) (v : Nat) (hv : v < s.2.length) (x : En) :
    X6 w ((put6 wq eb v x).setCell ⟨xb, kk, none⟩ (.int .i64 ((v + 1 : Nat) : Int))).drew xb eb U (s.1.set kk (v + 1), s.2.set v (some x)) := by
  have hl := h.lt
  have h4 : X4 w (put6 wq eb v x) xb U s.1 := ⟨h.x4.rn.put6 x (Ne.symm h.ne), h.x4.re.put6 x (by omega), put6_bel x h.x4.bel (by omega), h.x4.lt⟩
  have h5 := (h.ro.put v hv x).other (b' := xb) (i := kk) (v := .int .i64 ((v + 1 : Nat) : Int)) (Ne.symm h.ne)
  exact ⟨(h4.set kk hk (v + 1)).drew, h5.kept (Below.refl _ _).drew h5.lt, h.ne, h.lt⟩

set_option maxRecDepth 20000 in
set_option maxHeartbeats 1000000 in
theorem sortFaces_calls (B Mb gb nb cE nE N cap : Nat) (cn : Nat → Nat → Nat) (k : KP) (c p1 : List Nat) (p2 : List (Option En)) (A E : List En) (w : World) (hB : B ≤ w.heap.size) (hK : Kn w B k) (hm : Mh w B Mb gb nb cE nE N cn) (hcap : cap = 4 * nE) (hE : nE ≤ 64) (hN : N ≤ 81)
    (hcnt : Plain.cnt (List.replicate (N + 1) 0) (unL cn cap) = some c) (hput : Plain.puts (Plain.sums c 1 N, List.replicate cap none) (unL cn cap) = some (p1, p2)) (hal : Plain.alls p2 = some A) (hbk : Plain.buckets 0 A (p1.take N) = some E) :
    Calls Ybaf.prog 26 #[.slice (some ⟨gb, 0, none⟩) nE cE, .slice none 0 0, .int .i64 cap, .int .i64 N] w fun e w' => ∃ eb, e = .returned (.slice (some ⟨eb, 0, none⟩) cap cap) ∧ RE w' eb E ∧ w.heap.size ≤ eb ∧ Below w.heap.size w w' := by
  have HH := hide' (And.intro hB (And.intro hK hm))
  have HP := hide' (And.intro hcnt (And.intro hput (And.intro hal hbk)))
  have HC := hide' hcap
  have hc256 : cap ≤ 256 := by omega
  have hmk0 := mkE0 cap (by omega)
  have hmkE := mkE cap (by omega)
  have hmkI : ∀ w : World, (Instr.makeSlice 70 (.int .i64 ((N : Int) + 1)) (.int .i64 ((N : Int) + 1))).run Ybaf.prog w = .ok (.slice (some ⟨w.heap.size, 0, none⟩) (N + 1) (N + 1)) (w.alloc (.cells (madeCells #[.int .i64 0] (N + 1)) 3)) := fun w => by
    rw [show (N : Int) + 1 = ((N + 1 : Nat) : Int) from by omega]; exact mkI (N + 1) (by omega) w
  have HS := hide' (Un.start w cap (by omega))
  clear hB hK hm hcnt hput hal hbk hcap
  go_enter Ybaf.func26, Ybaf.ntmps26
  go_wp2_with fail
  go_loopg [9, 31] nE (fun g s9 s31 wr => ∃ e : Nat, s9 = .slice (some ⟨w.heap.size, 0, none⟩) (4 * e) cap ∧ s31 = .int .i64 e ∧ e ≤ nE ∧ g = nE - e ∧ Hid (Un w wr (4 * e) cap (unL cn (4 * e))))
  case atStart => exact ⟨0, rfl, rfl, by omega, by omega, HS.out⟩
  case round =>
    clear HS
    obtain ⟨e, rfl, rfl, he, hg, HU⟩ := hrel
    have HG := hide' hg
    clear hg
    by_cases hlt : e < nE
    · have hlt2 : decide ((e : Int) < nE) = true := by simp; omega
      have hk := HH.out.2.1.kept (HU.out.bel.mono HH.out.1)
      have hm := HH.out.2.2.kept (HU.out.bel.mono HH.out.1)
      have ki := hm.kind e hlt
      have kf := hk.fac
      clear hk hm
      go_wp2_with fail
      go_loopg [9, 45] 4 (fun g s9 s45 wq => ∃ f : Nat, s9 = .slice (some ⟨w.heap.size, 0, none⟩) (4 * e + f) cap ∧ s45 = .int .i64 f ∧ f ≤ 4 ∧ g = 4 - f ∧ Hid (Un w wq (4 * e + f) cap (unL cn (4 * e + f))))
      case atStart => exact ⟨0, rfl, rfl, by omega, by omega, HU.out⟩
      case round =>
        clear HU ki kf
        obtain ⟨f, rfl, rfl, hf, hg, HU⟩ := hrel
        have HG2 := hide' hg
        clear hg
        by_cases hlt3 : f < 4
        · have hlt4 : decide ((f : Int) < 4) = true := by simp; omega
          have hk := HH.out.2.1.kept (HU.out.bel.mono HH.out.1)
          have hm := HH.out.2.2.kept (HU.out.bel.mono HH.out.1)
          have rf := hk.row f hlt3
          have sz := HU.out.bel.size
          have hkey := hide' (keyOf_calls gb (e * 11) (k.Rb f) (k.Ro f) (k.cR f) f ((f + 1) % 4) (cn e f) (cn e ((f + 1) % 4)) wr (by have := hm.bg; have := HH.out.1; omega) (by have := hk.bR f hlt3; have := HH.out.1; omega) (by omega) (by omega) (hm.corner e f hlt hlt3) (hm.corner e _ hlt (Nat.mod_lt _ (by omega))) (hk.i0 f hlt3) (hk.i1 f hlt3))
          have hen : enOf cn ((4 * e + f) / 4) ((4 * e + f) % 4) = ⟨min (cn e f) (cn e ((f + 1) % 4)), max (cn e f) (cn e ((f + 1) % 4)), e, f⟩ := by
            rw [show (4 * e + f) / 4 = e from by omega, show (4 * e + f) % 4 = f from by omega]; rfl
          have HEN := hide' hen
          have HSZ := hide' sz
          clear hk hm hen sz
          generalize min (cn e f) (cn e ((f + 1) % 4)) = m0 at *
          generalize max (cn e f) (cn e ((f + 1) % 4)) = m1 at *
          go_wp2_with (first
            | (go_at_call 48; refine hkey.out.mono ?_; rintro e' w2 ⟨rfl, hb2⟩; have HB2 := hide' hb2; clear hb2)
            | (at_builtin; refine wpList_en rfl _ _ rfl w.heap.size w.heap.size (4 * e + f) cap (unL cn (4 * e + f)) ⟨m0, m1, e, f⟩ rfl ((owns_kept HU.out.own HB2.out).alloc _) ⟨w2.heap.size, 0, none⟩ rfl (six w2 ⟨m0, m1, e, f⟩ 117 _ (by simp [enc])) (by have := HC.out; omega) ?_; intro w3 hown hgr; have HU2 := hide' (HU.out.step HB2.out hown hgr); clear hown hgr))
          go_roundg (4 - (f + 1))
          case measure => have := HG2.out; omega
          case rel => exact ⟨f + 1, rfl, by push_cast; rfl, by omega, rfl, by rw [← Nat.add_assoc, unL_succ, HEN.out]; exact HU2.out⟩
        · obtain rfl : f = 4 := by omega
          go_wp2_with fail
          go_roundg (nE - (e + 1))
          case measure => have := HG.out; omega
          case rel => exact ⟨e + 1, by rw [Nat.mul_succ], by push_cast; rfl, by omega, rfl, by rw [Nat.mul_succ]; exact HU.out⟩
    · obtain rfl : e = nE := by omega
      have hlt2 : decide ((e : Int) < e) = false := by simp
      rw [← HC.out] at HU
      rw [← HC.out]
      go_wp2_with fail
      go_loopg [9, 65] 0 (fun g s9 s65 wq => s9 = .slice (some ⟨w.heap.size, 0, none⟩) cap cap ∧ s65 = .int .i64 0 ∧ Hid (wq = wr))
      case atStart => exact ⟨rfl, rfl, rfl⟩
      case round =>
        obtain ⟨rfl, rfl, HW⟩ := hrel
        obtain rfl := HW.out
        clear HW hmk0
        go_wp2_with fail
        have HX := hide' (X4.start HU.out N)
        clear hmkI
        generalize hxb : wr.heap.size = xb
        have HXB := hide' hxb
        rw [hxb] at HX
        generalize (wr.alloc (Obj.cells (madeCells #[Value.int IntKind.i64 0] (N + 1)) 3)) = w4 at *
        clear hxb HU
        have hUl : (unL cn cap).length = cap := by simp [unL]
        have HUL := hide' hUl
        clear hUl
        go_loopg [84] cap (fun g s84 wq => ∃ i : Nat, s84 = .int .i64 i ∧ i ≤ cap ∧ g = cap - i ∧ Hid (∃ l, Plain.cnt (List.replicate (N + 1) 0) ((unL cn cap).take i) = some l ∧ (∀ j, l.getD j 0 ≤ i) ∧ X4 w wq xb (unL cn cap) l))
        case atStart => exact ⟨0, rfl, by omega, by omega, List.replicate (N + 1) 0, rfl, fun j => by simp [List.getD, List.getElem?_replicate]; split <;> simp, HX.out⟩
        case round =>
          clear HX
          obtain ⟨i, rfl, hi, hg, HR⟩ := hrel
          have HG4 := hide' hg
          clear hg
          by_cases hlt : i < cap
          · have hlt2 : decide ((i : Int) < cap) = true := by simp; omega
            obtain ⟨l, hl, hbd, hx4⟩ := HR.out
            obtain ⟨x, hx⟩ : ∃ x, (unL cn cap)[i]? = some x := ⟨_, List.getElem?_eq_getElem (by rw [HUL.out]; exact hlt)⟩
            obtain ⟨l', hl', hl2⟩ := Plain.cnt_at HP.out.1 hx hl
            have hlen : l.length = N + 1 := by rw [Plain.cnt_len hl, List.length_replicate]
            have hk : x.k0 + 1 < l.length ∧ l.set (x.k0 + 1) (l.getD (x.k0 + 1) 0 + 1) = l' := by
              unfold Plain.cntS at hl'
              split at hl'
              · exact ⟨by assumption, Option.some.inj hl'⟩
              · cases hl'
            have r0 : wr.cell? ⟨w.heap.size, i * 6, none⟩ = some (.int .i32 x.k0) := by
              have := hx4.re.cell i 0 (by rw [HUL.out]; exact hlt) (by omega)
              rw [show (unL cn cap).getD i En.z = x from by simp [List.getD, hx]] at this
              exact this
            have r1 := hx4.rn.cell (x.k0 + 1) hk.1
            have rf := hx4.rn.fz
            have hb1 := hbd (x.k0 + 1)
            have hkN : x.k0 ≤ 81 := by omega
            have hkN2 : x.k0 + 1 < N + 1 := by omega
            have HST := hide' (hx4.set (x.k0 + 1) hk.1 (l.getD (x.k0 + 1) 0 + 1))
            have HBD := hide' hbd
            have HL := hide' (And.intro hl2 hk)
            clear hl hbd hx4 hx hl' hl2 hlen hk HR
            generalize l.getD (x.k0 + 1) 0 = v at *
            generalize x.k0 = kk at *
            go_wp2_with fail
            go_roundg (cap - (i + 1))
            case measure => have := HG4.out; omega
            case rel => exact ⟨i + 1, by push_cast; rfl, by omega, rfl, l', HL.out.1, fun j => by
                rw [← HL.out.2.2]
                have := HBD.out j
                simp only [List.getD, List.getElem?_set] at this ⊢
                split
                · split
                  · simp; omega
                  · simp
                · omega, by rw [← HL.out.2.2]; exact HST.out⟩
          · obtain rfl : i = cap := by omega
            have hlt2 : decide ((i : Int) < i) = false := by simp
            obtain ⟨l, hl, hbd, hx4⟩ := HR.out
            have hlc : l = c := by
              rw [List.take_of_length_le (by rw [HUL.out]; exact Nat.le_refl _), HP.out.1] at hl
              exact (Option.some.inj hl).symm
            subst hlc
            have hcl : l.length = N + 1 := by rw [Plain.cnt_len HP.out.1, List.length_replicate]
            have HX := hide' (And.intro hx4 hbd)
            have HCL := hide' hcl
            clear hl hbd hx4 HR hcl hlt
            go_wp2_with fail
            go_loopg [17] N (fun g s17 wq => ∃ m : Nat, s17 = .int .i64 ((m : Int) + 1) ∧ m ≤ N ∧ g = N - m ∧ Hid ((∀ j, (Plain.sums l 1 m).getD j 0 ≤ 256 * (m + 1)) ∧ (∀ j, m < j → (Plain.sums l 1 m).getD j 0 ≤ 256) ∧ X4 w wq xb (unL cn i) (Plain.sums l 1 m)))
            case atStart => exact ⟨0, by simp, by omega, by omega, fun j => by have := HX.out.2 j; show l.getD j 0 ≤ _; omega, fun j _ => by have := HX.out.2 j; show l.getD j 0 ≤ _; omega, HX.out.1⟩
            case round =>
              clear HX
              obtain ⟨m, rfl, hm, hg, HR⟩ := hrel
              have HG5 := hide' hg
              clear hg
              by_cases hlt : m < N
              · have hlt3 : decide ((m : Int) + 1 < (N : Int) + 1) = true := by simp; omega
                have hlt4 : m + 1 < N + 1 := by omega
                obtain ⟨hbd, hbe, hx4⟩ := HR.out
                have hsl : (Plain.sums l 1 m).length = N + 1 := by rw [Plain.sums_len, HCL.out]
                have r1 := hx4.rn.cell (m + 1) (by omega)
                have r2 := hx4.rn.cell m (by omega)
                have rf := hx4.rn.fz
                have b1 := hbe (m + 1) (by omega)
                have b2 := hbd m
                have hs := Plain.sums_succ m l 1
                rw [show 1 + m = m + 1 from by omega, show m + 1 - 1 = m from by omega] at hs
                have HST := hide' (hx4.set (m + 1) (by omega) ((Plain.sums l 1 m).getD (m + 1) 0 + (Plain.sums l 1 m).getD m 0))
                have HBD := hide' hbd
                have HBE := hide' hbe
                have HS5 := hide' hs
                have b1' : (Plain.sums l 1 m).getD (m + 1) 0 ≤ 30000 := by omega
                have b2' : (Plain.sums l 1 m).getD m 0 ≤ 30000 := by omega
                have HBB := hide' (And.intro b1 b2)
                clear hbd hbe hx4 hs hsl HR b1 b2
                generalize (Plain.sums l 1 m).getD (m + 1) 0 = v1 at *
                generalize (Plain.sums l 1 m).getD m 0 = v2 at *
                go_wp2_with fail
                go_region
                all_goals (
                  go_wp2_with fail
                  go_roundg (N - (m + 1)))
                all_goals first
                  | (have := HG5.out; omega)
                  | exact ⟨m + 1, by push_cast; rfl, by omega, rfl, fun j => by
                      rw [HS5.out]
                      have := HBD.out j
                      have hbb := HBB.out
                      simp only [List.getD, List.getElem?_set] at this ⊢
                      split
                      · split
                        · simp; omega
                        · simp
                      · omega, fun j hj => by
                      rw [HS5.out]
                      have := HBE.out j (by omega)
                      simp only [List.getD, List.getElem?_set] at this ⊢
                      rw [if_neg (by omega)]
                      exact this, by rw [HS5.out]; have := HST.out.drew; push_cast at this; exact this⟩
              · obtain rfl : m = N := by omega
                have hlt3 : decide ((m : Int) + 1 < (m : Int) + 1) = false := by simp
                go_wp2_with fail
                have HX6 := hide' (X6.start HR.out.2.2 i)
                have HEB := hide' (HR.out.2.2.rn.lt)
                clear HR hmkE
                generalize heb : wr.heap.size = eb at *
                generalize (wr.alloc (Obj.cells (madeCells ZC (i * 6)) 117)) = w6 at *
                have HEQ := hide' heb
                clear heb
                go_loopg [122] i (fun g s122 wq => ∃ t : Nat, s122 = .int .i64 t ∧ t ≤ i ∧ g = i - t ∧ Hid (∃ s, Plain.puts (Plain.sums l 1 m, List.replicate i none) ((unL cn i).take t) = some s ∧ X6 w wq xb eb (unL cn i) s))
                case atStart => exact ⟨0, rfl, by omega, by omega, _, rfl, HX6.out⟩
                case round =>
                  clear HX6
                  obtain ⟨t, rfl, ht, hg, HR⟩ := hrel
                  have HG6 := hide' hg
                  clear hg
                  by_cases hlt : t < i
                  · have hlt5 : decide ((t : Int) < i) = true := by simp; omega
                    obtain ⟨s, hs, hx6⟩ := HR.out
                    obtain ⟨x, hx⟩ : ∃ x, (unL cn i)[t]? = some x := ⟨_, List.getElem?_eq_getElem (by rw [HUL.out]; exact hlt)⟩
                    obtain ⟨s', hs', hs2⟩ := Plain.puts_at HP.out.2.1 hx hs
                    have hlen := Plain.puts_len hs
                    rw [Plain.sums_len, HCL.out, List.length_replicate] at hlen
                    have hk : (x.k0 < s.1.length ∧ s.1.getD x.k0 0 < s.2.length) ∧ (s.1.set x.k0 (s.1.getD x.k0 0 + 1), s.2.set (s.1.getD x.k0 0) (some x)) = s' := by
                      unfold Plain.putS at hs'
                      split at hs'
                      · exact ⟨by assumption, Option.some.inj hs'⟩
                      · cases hs'
                    have hg' : (unL cn i).getD t En.z = x := by simp [List.getD, hx]
                    have rr : ∀ c, c < 6 → wr.cell? ⟨w.heap.size, t * 6 + c, none⟩ = (enc x)[c]? := fun c hc => by
                      have := hx6.x4.re.cell t c (by rw [HUL.out]; exact hlt) hc
                      rwa [hg'] at this
                    have q0 : wr.cell? ⟨w.heap.size, t * 6, none⟩ = some (.int .i32 x.k0) := rr 0 (by omega)
                    have q1 : wr.cell? ⟨w.heap.size, t * 6 + 1, none⟩ = some (.int .i32 x.k1) := rr 1 (by omega)
                    have q2 : wr.cell? ⟨w.heap.size, t * 6 + 2, none⟩ = some (.int .i32 (-1)) := rr 2 (by omega)
                    have q3 : wr.cell? ⟨w.heap.size, t * 6 + 3, none⟩ = some (.int .i32 (-1)) := rr 3 (by omega)
                    have q4 : wr.cell? ⟨w.heap.size, t * 6 + 4, none⟩ = some (.int .i32 x.e) := rr 4 (by omega)
                    have q5 : wr.cell? ⟨w.heap.size, t * 6 + 5, none⟩ = some (.int .i32 x.f) := rr 5 (by omega)
                    have n1 := hx6.x4.rn.cell x.k0 hk.1.1
                    have nf := hx6.x4.rn.fz
                    have ef := hx6.ro.fz
                    have hv : s.1.getD x.k0 0 < i := by have := hk.1.2; omega
                    have hkN : x.k0 < m + 1 := by have := hk.1.1; omega
                    have ex := fun c (hc : c < 6) => Option.isSome_iff_exists.1 (hx6.ro.ex (s.1.getD x.k0 0 * 6 + c) (by omega))
                    obtain ⟨v0, y0⟩ := ex 0 (by omega)
                    obtain ⟨v1, y1⟩ := ex 1 (by omega)
                    obtain ⟨v2, y2⟩ := ex 2 (by omega)
                    obtain ⟨v3, y3⟩ := ex 3 (by omega)
                    obtain ⟨v4, y4⟩ := ex 4 (by omega)
                    obtain ⟨v5, y5⟩ := ex 5 (by omega)
                    rw [Nat.add_zero] at y0
                    have ne1 := hx6.ne
                    have ne2 : ¬ (eb = w.heap.size) := by have := hx6.lt; omega
                    have ne3 : ¬ (xb = w.heap.size) := by have := hx6.x4.lt; omega
                    have HST := hide' (hx6.step x.k0 hk.1.1 (s.1.getD x.k0 0) hk.1.2 x)
                    have HL := hide' (And.intro hs2 hk.2)
                    clear hs hx6 hs' hs2 hlen hk rr ex hg' HR hx
                    generalize s.1.getD x.k0 0 = v at *
                    go_wp2_with fail
                    go_region
                    all_goals (
                      go_wp2_with fail
                      go_roundg (i - (t + 1)))
                    all_goals first
                      | (have := HG6.out; omega)
                      | exact ⟨t + 1, by push_cast; rfl, by omega, rfl, s', HL.out.1, by rw [← HL.out.2]; exact HST.out⟩
                  · obtain rfl : t = i := by omega
                    have hlt5 : decide ((t : Int) < t) = false := by simp
                    obtain ⟨s, hs, hx6⟩ := HR.out
                    rw [List.take_of_length_le (by rw [HUL.out]; exact Nat.le_refl _), HP.out.2.1] at hs
                    have hs2 : s = (p1, p2) := (Option.some.inj hs).symm
                    subst hs2
                    have hplen := Plain.puts_len HP.out.2.1
                    rw [Plain.sums_len, HCL.out, List.length_replicate] at hplen
                    have hp2 := Plain.alls_eq HP.out.2.2.1
                    have hAl : A.length = t := by have := hplen.2; rw [hp2, List.length_map] at this; exact this
                    have hre : RE wr eb A := by have := hx6.ro; rw [show (p1, p2).2 = p2 from rfl, hp2] at this; exact this.re
                    have HX7 := hide' (And.intro hre (And.intro hx6.x4.rn hx6.x4.bel))
                    have HNE := hide' (And.intro hx6.ne (And.intro hx6.lt hx6.x4.lt))
                    have HPL := hide' (And.intro hplen.1 hAl)
                    have HBK := hide' HP.out.2.2.2
                    clear hs hx6 hplen hp2 hAl hre HR HP
                    go_wp2_with fail
                    go_loopg [21, 152] m (fun g s21 s152 wq => ∃ n st : Nat, s21 = .int .i64 st ∧ s152 = .int .i64 n ∧ n ≤ m ∧ g = m - n ∧ st ≤ t ∧ Hid (∃ A', Plain.buckets st A' ((p1.take m).drop n) = some E ∧ A'.length = t ∧ RE wq eb A' ∧ RN wq xb p1 ∧ Below w.heap.size w wq))
                    case atStart => exact ⟨0, 0, rfl, rfl, by omega, by omega, by omega, A, HBK.out, HPL.out.2, HX7.out.1, HX7.out.2.1, HX7.out.2.2⟩
                    case round =>
                      clear HX7 HBK
                      obtain ⟨n, st, rfl, rfl, hn, hg, hst, HR⟩ := hrel
                      have HG7 := hide' hg
                      clear hg
                      by_cases hlt : n < m
                      · have hlt7 : decide ((n : Int) < m) = true := by simp; omega
                        obtain ⟨A', hbk, hAl, hre, hrn, hbel⟩ := HR.out
                        have hp1l := HPL.out.1
                        have hp1l' : p1.length = m + 1 := hp1l
                        obtain ⟨en, hen⟩ : ∃ en, en = p1.getD n 0 := ⟨_, rfl⟩
                        have hdr : (p1.take m).drop n = en :: (p1.take m).drop (n + 1) := by
                          have hnl : n < (p1.take m).length := by simp; omega
                          rw [List.drop_eq_getElem_cons hnl, hen]
                          congr 1
                          simp [List.getD, show n < p1.length from by omega]
                        rw [hdr, Plain.buckets] at hbk
                        have hcond : st ≤ en ∧ en ≤ A'.length ∧ en - st ≤ 12 := by
                          by_cases hc : st ≤ en ∧ en ≤ A'.length ∧ en - st ≤ 12
                          · exact hc
                          · rw [if_neg hc] at hbk; cases hbk
                        rw [if_pos hcond] at hbk
                        have r1 := hrn.cell n (by omega)
                        rw [← hen] at r1
                        have h1 := hcond.1
                        have h2 : en ≤ t := by have := hcond.2.1; omega
                        have hcap : ((A'.drop st).take (en - st)).toArray.size = en - st := by simp; omega
                        have HREN := hide' (And.intro hre (And.intro hrn (And.intro hbel hbk)))
                        have HCD := hide' hcond
                        have HAL := hide' hAl
                        by_cases hts : t = st
                        · have hes : en = st := by omega
                          have hcall := sort_calls (hI := En.inh) eb 0 0 (#[] : Array En) wr (holds_nil (hI := En.inh) _ _ _) hre.lt (by simp)
                          have HCALL := hide' hcall
                          subst hts
                          subst hes
                          clear hbk hAl hre hrn hbel hdr hcond hcap hen hp1l hp1l' HR hcall
                          go_wp2_with (go_at_call 50; refine HCALL.out.mono ?_; rintro e' w9 ⟨rfl, nn, os, hw9⟩; have HW9 := hide' hw9; clear hw9)
                          go_roundg (m - (n + 1))
                          case measure => have := HG7.out; omega
                          case rel =>
                            have hd := bucket_done (hI := En.inh) HREN.out.1 0 0 (Nat.le_refl _) (Nat.zero_le _) w9 (by have := HW9.out; simpa using this)
                            have hsame : A'.take 0 ++ Plain.isort ((A'.drop 0).take (0 - 0)) ++ A'.drop 0 = A' := by simp [Plain.isort]
                            rw [hsame] at hd
                            have hb9 : Below w.heap.size w w9 := HREN.out.2.2.1.trans ⟨hd.2.1, hd.2.2.1, hd.2.2.2.1, hd.2.2.2.2.1, fun q hq => hd.2.2.2.2.2 q (by have := HREN.out.2.2.1.size; omega) (by have := HNE.out.2.1; omega)⟩
                            have hx9 : RN w9 xb p1 := ⟨fun q hq => (World.cell?_of_block (a := ⟨xb, q, none⟩) (hd.2.2.2.2.2 xb HREN.out.2.1.lt (Ne.symm HNE.out.1))).trans (HREN.out.2.1.cell q hq), fun q => (World.frozen?_of_block (a := ⟨xb, q, none⟩) (hd.2.2.2.2.2 xb HREN.out.2.1.lt (Ne.symm HNE.out.1))).trans (HREN.out.2.1.fz q), Nat.lt_of_lt_of_le HREN.out.2.1.lt hd.2.2.2.2.1⟩
                            refine ⟨n + 1, _, rfl, by push_cast; rfl, by omega, rfl, by omega, A', ?_, HAL.out, hd.1, hx9, hb9⟩
                            have hq := HREN.out.2.2.2
                            rw [Nat.sub_self] at hq
                            simp only [List.take_zero, Plain.isort, List.append_nil, List.take_append_drop] at hq
                            exact hq
                        · have hcall := sort_calls (hI := En.inh) eb (st * 6) (t - st) ((A'.drop st).take (en - st)).toArray wr (bucket_holds (hI := En.inh) hre st en h1 hcond.2.1) hre.lt (by rw [hcap]; exact hcond.2.2)
                          rw [hcap] at hcall
                          have HCALL := hide' hcall
                          have HCAP := hide' hcap
                          clear hbk hAl hre hrn hbel hdr hcond hcap hen hp1l hp1l' HR hcall
                          go_wp2_with (go_at_call 50; refine HCALL.out.mono ?_; rintro e' w9 ⟨rfl, nn, os, hw9⟩; have HW9 := hide' hw9; clear hw9)
                          go_roundg (m - (n + 1))
                          case measure => have := HG7.out; omega
                          case rel =>
                            have hd := bucket_done (hI := En.inh) HREN.out.1 st en h1 HCD.out.2.1 w9 (by rw [HCAP.out]; exact HW9.out)
                            have hb9 : Below w.heap.size w w9 := HREN.out.2.2.1.trans ⟨hd.2.1, hd.2.2.1, hd.2.2.2.1, hd.2.2.2.2.1, fun q hq => hd.2.2.2.2.2 q (by have := HREN.out.2.2.1.size; omega) (by have := HNE.out.2.1; omega)⟩
                            have hx9 : RN w9 xb p1 := ⟨fun q hq => (World.cell?_of_block (a := ⟨xb, q, none⟩) (hd.2.2.2.2.2 xb HREN.out.2.1.lt (Ne.symm HNE.out.1))).trans (HREN.out.2.1.cell q hq), fun q => (World.frozen?_of_block (a := ⟨xb, q, none⟩) (hd.2.2.2.2.2 xb HREN.out.2.1.lt (Ne.symm HNE.out.1))).trans (HREN.out.2.1.fz q), Nat.lt_of_lt_of_le HREN.out.2.1.lt hd.2.2.2.2.1⟩
                            refine ⟨n + 1, en, rfl, by push_cast; rfl, by omega, rfl, h2, _, ?_, ?_, hd.1, hx9, hb9⟩
                            · exact HREN.out.2.2.2
                            · have h5 := HAL.out
                              rw [List.length_append, List.length_append, isort_len]
                              simp; omega
                      · obtain rfl : n = m := by omega
                        have hlt7 : decide ((n : Int) < n) = false := by simp
                        obtain ⟨A', hbk, hAl, hre, hrn, hbel⟩ := HR.out
                        have hE' : A' = E := by
                          have hdd : (p1.take n).drop n = [] := List.drop_of_length_le (List.length_take_le _ _)
                          rw [hdd, Plain.buckets] at hbk
                          exact Option.some.inj hbk
                        subst hE'
                        have HF := hide' (And.intro hre hbel)
                        clear hbk hAl hre hrn hbel HR
                        go_wp2_with fail
                        go_ret
                        exact ⟨eb, rfl, HF.out.1, by have := HNE.out.2.1; omega, HF.out.2⟩
end Go.Proofs.YbulkcgjqFmt
