import Derived.Test.YbulkcgjqFmtKit
namespace Go.Proofs.YbulkcgjqFmt
set_option linter.unusedSimpArgs false
set_option linter.unusedVariables false
open Go.ChangeShapes Go.WideShapes Go.ChangeAt Go.RowKit Go.Sort

/-- Where the table of kinds has its faces. -/
structure KP where
  Fb : Nat
  Fo : Nat
  cF : Nat
  Rb : Nat → Nat
  Ro : Nat → Nat
  cR : Nat → Nat
/-- What the walk reads of the table of kinds: the quadrilateral's row. -/
structure Kn (w : World) (B : Nat) (k : KP) : Prop where
  dim : w.cell? ⟨0, 17, none⟩ = some (.int .i64 2)
  cor : w.cell? ⟨0, 18, none⟩ = some (.int .i64 4)
  fac : w.cell? ⟨0, 19, none⟩ = some (.slice (some ⟨k.Fb, k.Fo, none⟩) 4 k.cF)
  row : ∀ f, f < 4 → w.cell? ⟨k.Fb, k.Fo + f, none⟩ = some (.slice (some ⟨k.Rb f, k.Ro f, none⟩) 2 (k.cR f))
  i0 : ∀ f, f < 4 → w.cell? ⟨k.Rb f, k.Ro f, none⟩ = some (.int .i64 f)
  i1 : ∀ f, f < 4 → w.cell? ⟨k.Rb f, k.Ro f + 1, none⟩ = some (.int .i64 ((f + 1) % 4 : Nat))
  b0 : 0 < B
  bF : k.Fb < B
  bR : ∀ f, f < 4 → k.Rb f < B
theorem Kn.kept {w w' : World} {B : Nat} {k : KP} (h : Kn w B k) (hb : Below B w w') : Kn w' B k :=
  ⟨(hb.cell (p := ⟨0, 17, none⟩) h.b0).trans h.dim, (hb.cell (p := ⟨0, 18, none⟩) h.b0).trans h.cor, (hb.cell (p := ⟨0, 19, none⟩) h.b0).trans h.fac, fun f hf => (hb.cell (p := ⟨k.Fb, k.Fo + f, none⟩) h.bF).trans (h.row f hf),
   fun f hf => (hb.cell (p := ⟨k.Rb f, k.Ro f, none⟩) (h.bR f hf)).trans (h.i0 f hf), fun f hf => (hb.cell (p := ⟨k.Rb f, k.Ro f + 1, none⟩) (h.bR f hf)).trans (h.i1 f hf), h.b0, h.bF, h.bR⟩

theorem valid_calls (w : World) : Calls Ybaf.prog 44 #[.int .u8 4] w fun e w' => e = .returned (.bool true) ∧ w' = w := by
  go_enter Ybaf.func44, Ybaf.ntmps44
  go_wp2_with fail
  go_ret
  exact ⟨rfl, rfl⟩
theorem dim_calls (w : World) (B : Nat) (k : KP) (h : Kn w B k) : Calls Ybaf.prog 38 #[.int .u8 4] w fun e w' => e = .returned (.int .i64 2) ∧ w' = w := by
  have c := h.dim
  go_enter Ybaf.func38, Ybaf.ntmps38
  go_wp2_with (go_at_call 44; refine (valid_calls _).mono ?_; rintro e w' ⟨rfl, rfl⟩)
  go_ret
  exact ⟨rfl, rfl⟩
theorem corners_calls (w : World) (B : Nat) (k : KP) (h : Kn w B k) : Calls Ybaf.prog 39 #[.int .u8 4] w fun e w' => e = .returned (.int .i64 4) ∧ w' = w := by
  have c := h.cor
  go_enter Ybaf.func39, Ybaf.ntmps39
  go_wp2_with (go_at_call 44; refine (valid_calls _).mono ?_; rintro e w' ⟨rfl, rfl⟩)
  go_ret
  exact ⟨rfl, rfl⟩
theorem faces_calls (w : World) (B : Nat) (k : KP) (h : Kn w B k) : Calls Ybaf.prog 24 #[.int .u8 4] w fun e w' => e = .returned (.int .i64 4) ∧ w' = w := by
  have c := h.fac
  go_enter Ybaf.func24, Ybaf.ntmps24
  go_wp2_with (go_at_call 44; refine (valid_calls _).mono ?_; rintro e w' ⟨rfl, rfl⟩)
  go_ret
  exact ⟨rfl, rfl⟩

/-- The key as keyOf builds it. -/
structure KS (w wr : World) (k0 k1 : Int) : Prop where
  c0 : wr.cell? ⟨w.heap.size + 1, 0, none⟩ = some (.int .i32 k0)
  c1 : wr.cell? ⟨w.heap.size + 1, 1, none⟩ = some (.int .i32 k1)
  c2 : wr.cell? ⟨w.heap.size + 1, 2, none⟩ = some (.int .i32 (-1))
  c3 : wr.cell? ⟨w.heap.size + 1, 3, none⟩ = some (.int .i32 (-1))
  r : ∀ i, i < 4 → wr.cell? ⟨w.heap.size, i, none⟩ = some (.int .i32 0)
  fz : ∀ i, wr.frozen? ⟨w.heap.size + 1, i, none⟩ = false
  fr : ∀ i, wr.frozen? ⟨w.heap.size, i, none⟩ = false
  bel : Below w.heap.size w wr
theorem KS.start (w W1 W2 : World) (e1 : W1 = w.alloc (.cells #[.int .i32 0, .int .i32 0, .int .i32 0, .int .i32 0] 115)) (e2 : W2 = W1.alloc (.cells #[.int .i32 (-1), .int .i32 (-1), .int .i32 (-1), .int .i32 (-1)] 115)) : KS w W2 (-1) (-1) := by
  obtain ⟨_, ha, hb⟩ := two_new w _ _ 115 W1 W2 e1 e2
  have s1 : W1.heap.size = w.heap.size + 1 := by rw [e1]; simp
  have b2 : W2.heap[w.heap.size]? = W1.heap[w.heap.size]? := by rw [e2]; exact Below.heap_alloc _ _ _ (by omega)
  refine ⟨hb 0, hb 1, hb 2, hb 3, fun i hi => ?_, fun i => ?_, fun i => ?_, ?_⟩
  · rw [ha i]
    rcases i with _ | _ | _ | _ | i <;> first | rfl | omega
  · rw [e2, ← s1]; simp only [World.frozen?]; rw [heap_alloc_new]; simp
  · rw [World.frozen?_of_block (w := W1) (a := ⟨w.heap.size, i, none⟩) b2, e1]; simp only [World.frozen?]; rw [heap_alloc_new]; simp
  · rw [e2]
    have h1 : Below w.heap.size w W1 := by rw [e1]; exact Below.alloc (Below.refl _ _) (Nat.le_refl _) _
    exact Below.alloc h1 h1.size _
theorem KS.put0 {w wr : World} {k0 k1 : Int} (h : KS w wr k0 k1) (k : Int) : KS w (wr.setCell ⟨w.heap.size + 1, 0, none⟩ (.int .i32 k)) k k1 := by
  refine ⟨World.cell?_setCell_same _ _ _ h.c0, ?_, ?_, ?_, fun i hi => ?_, fun i => by rw [World.frozen?_setCell]; exact h.fz i, fun i => by rw [World.frozen?_setCell]; exact h.fr i, h.bel.setCell (p := ⟨w.heap.size + 1, 0, none⟩) (by show w.heap.size ≤ w.heap.size + 1; omega) _⟩
  · rw [World.cell?_setCell_other _ _ _ _ (by simp)]; exact h.c1
  · rw [World.cell?_setCell_other _ _ _ _ (by simp)]; exact h.c2
  · rw [World.cell?_setCell_other _ _ _ _ (by simp)]; exact h.c3
  · rw [World.cell?_setCell_other _ _ _ _ (by simp)]; exact h.r i hi
theorem KS.put1 {w wr : World} {k0 k1 : Int} (h : KS w wr k0 k1) (k : Int) : KS w (wr.setCell ⟨w.heap.size + 1, 1, none⟩ (.int .i32 k)) k0 k := by
  refine ⟨?_, World.cell?_setCell_same _ _ _ h.c1, ?_, ?_, fun i hi => ?_, fun i => by rw [World.frozen?_setCell]; exact h.fz i, fun i => by rw [World.frozen?_setCell]; exact h.fr i, h.bel.setCell (p := ⟨w.heap.size + 1, 1, none⟩) (by show w.heap.size ≤ w.heap.size + 1; omega) _⟩
  · rw [World.cell?_setCell_other _ _ _ _ (by simp)]; exact h.c0
  · rw [World.cell?_setCell_other _ _ _ _ (by simp)]; exact h.c2
  · rw [World.cell?_setCell_other _ _ _ _ (by simp)]; exact h.c3
  · rw [World.cell?_setCell_other _ _ _ _ (by simp)]; exact h.r i hi

set_option maxRecDepth 10000 in
set_option maxHeartbeats 1000000 in
/-- keyOf of an edge. -/
theorem keyOf_calls (A off L lo lc a b u v : Nat) (w : World) (hA : A < w.heap.size) (hL : L < w.heap.size) (ha : a < 8) (hb : b < 8) (cu : w.cell? ⟨A, off + 3 + a, none⟩ = some (.int .i32 u)) (cv : w.cell? ⟨A, off + 3 + b, none⟩ = some (.int .i32 v))
    (l0 : w.cell? ⟨L, lo, none⟩ = some (.int .i64 a)) (l1 : w.cell? ⟨L, lo + 1, none⟩ = some (.int .i64 b)) :
    Calls Ybaf.prog 48 #[.pointer (some ⟨A, off, none⟩), .slice (some ⟨L, lo, none⟩) 2 lc] w fun e w' => e = .returned (.agg #[.int .i32 (min u v : Nat), .int .i32 (max u v : Nat), .int .i32 (-1), .int .i32 (-1)]) ∧ Below w.heap.size w w' := by
  go_enter Ybaf.func48, Ybaf.ntmps48
  go_wp2_with fail
  have HS := hide' (KS.start w _ _ rfl rfl)
  go_loopg [13] 2 (fun g s13 wr => (s13 = .int .i64 0 ∧ g = 2 ∧ Hid (KS w wr (-1) (-1))) ∨ (s13 = .int .i64 1 ∧ g = 1 ∧ Hid (KS w wr u (-1))) ∨ (s13 = .int .i64 2 ∧ g = 0 ∧ Hid (KS w wr (min u v : Nat) (max u v : Nat))))
  case atStart => exact .inl ⟨rfl, rfl, HS.out⟩
  case round =>
    clear HS
    rcases hrel with ⟨rfl, rfl, HK⟩ | ⟨rfl, rfl, HK⟩ | ⟨rfl, rfl, HK⟩
    · have x0 := (HK.out.bel.cell (p := ⟨L, lo, none⟩) hL).trans l0
      have x1 := (HK.out.bel.cell (p := ⟨A, off + 3 + a, none⟩) hA).trans cu
      have y0 := HK.out.c0
      have yf := HK.out.fz
      go_wp2_with fail
      go_loopg [9] 0 (fun g s9 wq => s9 = .int .i64 0 ∧ Hid (wq = wr))
      case atStart => exact ⟨rfl, rfl⟩
      case round =>
        obtain ⟨rfl, HW⟩ := hrel
        obtain rfl := HW.out
        clear HW
        go_wp2_with fail
        go_roundg 1
        case measure => omega
        case rel => exact .inr (.inl ⟨rfl, rfl, HK.out.put0 u⟩)
    · have x0 := (HK.out.bel.cell (p := ⟨L, lo + 1, none⟩) hL).trans l1
      have x1 := (HK.out.bel.cell (p := ⟨A, off + 3 + b, none⟩) hA).trans cv
      have y0 := HK.out.c0
      have y1 := HK.out.c1
      have yf := HK.out.fz
      by_cases huv : v < u
      · have huv' : decide ((v : Int) < u) = true := by simp; omega
        have huv2 : (v : Int) < u := by omega
        go_wp2_with fail
        go_loopg [9] 1 (fun g s9 wq => (s9 = .int .i64 1 ∧ g = 1 ∧ Hid (wq = wr)) ∨ (s9 = .int .i64 0 ∧ g = 0 ∧ Hid (KS w wq u u)))
        case atStart => exact .inl ⟨rfl, rfl, rfl⟩
        case round =>
          rcases hrel with ⟨rfl, rfl, HW⟩ | ⟨rfl, rfl, HK2⟩
          · obtain rfl := HW.out
            clear HW
            go_wp2_with fail
            go_roundg 0
            case measure => omega
            case rel => exact .inr ⟨rfl, rfl, HK.out.put1 u⟩
          · have z0 := HK2.out.c0
            have zf := HK2.out.fz
            go_wp2_with fail
            go_roundg 0
            case measure => omega
            case rel =>
              refine .inr (.inr ⟨rfl, rfl, ?_⟩)
              rw [Nat.min_eq_right (by omega), Nat.max_eq_left (by omega)]
              exact HK2.out.put0 v
      · have huv' : decide ((v : Int) < u) = false := by simp; omega
        have huv2 : ¬ ((v : Int) < u) := by omega
        go_wp2_with fail
        go_loopg [9] 1 (fun g s9 wq => s9 = .int .i64 1 ∧ Hid (wq = wr))
        case atStart => exact ⟨rfl, rfl⟩
        case round =>
          obtain ⟨rfl, HW⟩ := hrel
          obtain rfl := HW.out
          clear HW
          go_wp2_with fail
          go_roundg 0
          case measure => omega
          case rel =>
            refine .inr (.inr ⟨rfl, rfl, ?_⟩)
            rw [Nat.min_eq_left (by omega), Nat.max_eq_right (by omega)]
            exact HK.out.put1 v
    · have y0 := HK.out.c0
      have y1 := HK.out.c1
      have y2 := HK.out.c2
      have y3 := HK.out.c3
      have yf := HK.out.fr
      have r0 := HK.out.r 0 (by omega)
      have r1 := HK.out.r 1 (by omega)
      have r2 := HK.out.r 2 (by omega)
      have r3 := HK.out.r 3 (by omega)
      go_wp2_with fail
      have hres : Ybaf.f48.results = #[.cell 4 115] := rfl
      refine bodyPost_ret (v := .agg #[.int .i32 (min u v : Nat), .int .i32 (max u v : Nat), .int .i32 (-1), .int .i32 (-1)]) ?_ rfl ⟨rfl, ?_⟩
      · simp only [results, hres]
        go_simp
      · exact (((HK.out.bel.setCell (p := ⟨w.heap.size, 0, none⟩) (Nat.le_refl _) _).setCell (p := ⟨w.heap.size, 1, none⟩) (Nat.le_refl _) _).setCell (p := ⟨w.heap.size, 2, none⟩) (Nat.le_refl _) _).setCell (p := ⟨w.heap.size, 3, none⟩) (Nat.le_refl _) _
end Go.Proofs.YbulkcgjqFmt
