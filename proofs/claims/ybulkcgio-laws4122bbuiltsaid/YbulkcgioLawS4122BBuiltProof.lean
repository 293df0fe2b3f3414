/-
  'Rows.LawS4122BBuiltSaid': of a well-formed IPv6 packet with a chain of extension headers ipv6SCTP gives back just the payload.
-/
import Derived.Test.YbulkcgioRows
import Derived.Test.YbulkcgioKit
import Derived.Test.YbulkcgioPlain
import Derived.WalkKit
import Derived.ProofKit
import Derived.OpenShut
import Derived.ShutString
import Derived.ChangeOld
import Derived.Below
import Derived.OwnWalk
import Derived.WalkSpells
import Derived.Deep.QuietTactic
import Derived.BigQuiet
import Derived.Laws.OwnMore
import Derived.Deep.DeepCutAuto
namespace Go.Proofs.Ybulkcgio.lawS4122BBuilt
open Go.ChangeShapes Go.WideShapes Go.ChangeAt Go.RowKit
open Go.ChangeMaps (open_string shut_string)
open Go.Proofs.Ybulkcgio.Kit
open Go.Proofs.Ybulkcgio
set_option linter.unusedVariables false
set_option linter.unusedSimpArgs false

theorem own : ownKnob Yba.prog.godebug = none := by kernel_rfl
theorem laidOut : laidOutB Yba.prog = true := by kernel_rfl

/-- What the walk is told of a slice of integers that came in: it is nil; or it leads to a row of 'cap' cells, the numbers 'zs' (the first 'len' are its elements, the rest its spare room), each fitting its kind. -/
def IsRow (k : IntKind) (w : World) (a : Option Addr) (len cap : Nat) (zs : List Int) : Prop :=
  (a = none ∧ len = 0 ∧ cap = 0 ∧ zs = []) ∨
  ∃ x, a = some x ∧ len ≤ cap ∧ cap ≤ maxLen ∧ zs.length = cap ∧ (∀ i, i < zs.length → w.cell? (x.add i) = some (.int k (zs.getD i 0))) ∧ ∀ n ∈ zs, (Lit.int k n).wf = true


def B (bs : List Int) : List Value := bs.map (Value.int .u8)
theorem B_len (bs : List Int) : (B bs).length = bs.length := by simp [B]
theorem B_app (a b : List Int) : B (a ++ b) = B a ++ B b := by simp [B]
theorem B_one (bs : List Int) : ∀ u ∈ B bs, u.oneCell' = true := ints_oneCell .u8 bs
theorem B_get (bs : List Int) (j : Nat) : (B bs)[j]? = (bs[j]?).map (Value.int .u8) := by simp [B]
theorem B_set (bs : List Int) (j : Nat) (x : Int) : (B bs).set j (.int .u8 x) = B (bs.set j x) := by simp [B, List.map_set]

theorem info5 : (Yba.prog.info? 5).map (fun i => (i.zero, i.size, i.bytes)) = some (some (.int .u8 0), 1, 1) := by kernel_rfl

def Z8 (n : Nat) : Array Value := madeCells #[.int .u8 0] n
theorem Z8_size (n : Nat) : (Z8 n).size = n := by simp [Z8, madeCells]
theorem Z8_list (n : Nat) : (Z8 n).toList = B (List.replicate n 0) := by
  unfold Z8; rw [toList_madeCells_one]; simp [B]
theorem mk22 (n : Nat) (hn : n ≤ 1000000) (w : World) : (Instr.makeSlice 22 (.int .i64 n) (.int .i64 n)).run Yba.prog w = .ok (.slice (some ⟨w.heap.size, 0, none⟩) n n) (w.alloc (.cells (Z8 n) 5)) := by
  obtain ⟨i, hi, hz0, hz1, hz2⟩ := info_parts info5
  have := run_make (P := Yba.prog) w 22 5 i (.int .u8 0) Yba.underlying22 hi hz0 .i64 .i64 n n (by omega) (by omega) (by rw [hz2]; omega) (by omega)
  rw [hz1] at this
  simpa [Z8, Value.cells] using this

/-- append(pkt, bytes...) at the operation. -/
theorem wpList_app {ops : Array Oper} {rest : List Oper} {o : Oper} {a : Act} {w : World} {Q : Exit → Act → World → Prop} (hgd : o.guard = none) (s x : Operand)
    (ho : o.op = .call { callee := .builtin .append, args := #[s, x], argTypes := #[22, 22] })
    (base g cap n : Nat) (bs : List Int) (hs : a.eval s = .slice (some ⟨g, 0, none⟩) n cap) (hown : w.ownsRow base 5 1 (.slice (some ⟨g, 0, none⟩) n cap) n (B bs))
    (ad : Addr) (m c : Nat) (ns : List Int) (hx : a.eval x = .slice (some ad) m c) (hl : ns.length = m) (hnews : ∀ j u, (B ns)[j]? = some u → w.cell? (ad.add j) = some u)
    (hnm : n + m ≤ 1000000) (hpos : 0 < n) (hbase : base ≤ w.heap.size)
    (h : ∀ g' cap' w', w'.ownsRow base 5 1 (.slice (some ⟨g', 0, none⟩) (n + m) cap') (n + m) (B (bs ++ ns)) → w.grownBy w' (some g) → base ≤ g' → wpList Yba.prog ops Q rest (a.put o.dst (.slice (some ⟨g', 0, none⟩) (n + m) cap')) w') :
    wpList Yba.prog ops Q (o :: rest) a w := by
  obtain ⟨i, hi, hz0, hz1, hz2⟩ := info_parts info5
  refine wpList_append_own w hgd s x 22 ho base 5 i (.int .u8 0) 1 1 Yba.underlying22 hi hz0 hz1 hz2 rfl (by decide) _ n (B bs) hs hown ad m c (B ns) hx (by rw [B_len, hl]; omega) hnews (B_one ns) (by unfold maxLen; omega) (by omega) hbase ?_
  intro v' w' h1 h2 h3
  rcases h1.2 with ⟨rfl, hz⟩ | ⟨g', cap', cur, rfl, hb, hrest⟩
  · omega
  · rw [B_app] at h
    exact h g' cap' w' h1 (by simpa [Value.ownBlock] using h2) hb

theorem wf_u8 {a : Int} (h : (Lit.int .u8 a).wf = true) : 0 ≤ a ∧ a < 256 := by
  simp [Lit.wf, IntKind.min, IntKind.max, IntKind.signed, IntKind.bits] at h; omega
theorem add_block (x : Addr) (j : Nat) : (x.add j).block = x.block := by unfold Addr.add; split <;> rfl

/-- What the walk knows of a slice of bytes that came in. -/
def Row (w : World) (a : Option Addr) (len : Nat) (zs : List Int) : Prop :=
  (∀ j, j < len → ∃ x : Addr, a = some x ∧ w.cell? (x.add j) = some (.int .u8 (zs.getD j 0))) ∧ (∀ j, 0 ≤ zs.getD j 0 ∧ zs.getD j 0 < 256) ∧ len ≤ zs.length

def tbl : Array Value := #[.int .u8 0, .int .u8 43, .int .u8 44, .int .u8 51, .int .u8 60]

attribute [local go_sem] Z8_size
def H0L : List Int := 96 :: List.replicate 39 0
theorem H0L_len : H0L.length = 40 := rfl
theorem start_own (w1 : World) (base g : Nat) (hg : g = w1.heap.size) (hb : base ≤ w1.heap.size) :
    (w1.alloc (.cells ((Z8 40).setIfInBounds 0 (.int .u8 96)) 5)).ownsRow base 5 1 (.slice (some ⟨g, 0, none⟩) 40 40) 40 (B H0L) := by
  subst hg
  have h := World.ownsRow_lit (e := 5) (size := 1) (base := base) w1 ((Z8 40).setIfInBounds 0 (.int .u8 96)) 40 hb (by unfold maxLen; omega) (by simp [Z8_size])
  rw [Array.toList_setIfInBounds, Z8_list, B_set] at h
  exact h
theorem tbl_get (k : Int) : (#[.int .u8 0, .int .u8 43, .int .u8 44, .int .u8 51, .int .u8 60] : Array Value)[(k % 5).toNat]? = some (.int .u8 (Plain.T k)) := by
  have h := Plain.T_get k
  have e : (#[.int .u8 0, .int .u8 43, .int .u8 44, .int .u8 51, .int .u8 60] : Array Value) = (([0, 43, 44, 51, 60] : List Int).map (Value.int .u8)).toArray := rfl
  rw [e]
  simp only [List.getElem?_toArray, List.getElem?_map, h]
  rfl
theorem tbl_cell (w wr : World) (hb : Below (w.heap.size + 1) (w.alloc (.cells tbl 28)) wr) (k : Int) : wr.cell? ⟨w.heap.size, (k % 5).toNat, none⟩ = some (.int .u8 (Plain.T k)) := by
  rw [hb.cell (by show w.heap.size < w.heap.size + 1; omega)]
  have : (w.alloc (.cells tbl 28)).cell? ⟨w.heap.size, (k % 5).toNat, none⟩ = tbl[(k % 5).toNat]? := by simp [go_sem]
  rw [this]
  exact tbl_get k

theorem off_bd (ks : List Int) (n : Nat) (ls : List Int) (m i : Nat) (hi : i ≤ 256) : 40 ≤ Plain.off ks n ls m i ∧ Plain.off ks n ls m i ≤ 8232 := by
  unfold Plain.off; have := Plain.Body_le ks n ls m i; omega
theorem set0 (nt : Int) (sz : Nat) (h : 2 ≤ sz) : (List.replicate sz (0 : Int)).set 0 nt = Plain.hdrL nt 0 sz := by
  obtain ⟨k, rfl⟩ : ∃ k, sz = k + 2 := ⟨sz - 2, by omega⟩
  simp [Plain.hdrL, List.replicate_succ]
theorem set01 (nt x : Int) (sz : Nat) (h : 2 ≤ sz) : ((List.replicate sz (0 : Int)).set 0 nt).set 1 x = Plain.hdrL nt x sz := by
  obtain ⟨k, rfl⟩ : ∃ k, sz = k + 2 := ⟨sz - 2, by omega⟩
  simp [Plain.hdrL, List.replicate_succ]
theorem arr_cells (w : World) (arr : Array Value) (l : List Int) (h : arr.toList = B l) : ∀ j u, (B l)[j]? = some u → (w.alloc (.cells arr 5)).cell? ((⟨w.heap.size, 0, none⟩ : Addr).add j) = some u := by
  intro j u hu
  have hadd : (⟨w.heap.size, 0, none⟩ : Addr).add j = ⟨w.heap.size, j, none⟩ := by unfold Addr.add; split <;> simp_all
  rw [hadd]
  have : (w.alloc (.cells arr 5)).cell? ⟨w.heap.size, j, none⟩ = arr[j]? := by simp [go_sem]
  rw [this, ← Array.getElem?_toList, h]
  exact hu
theorem hdr_cells0 (w : World) (sz : Nat) (nt : Int) (h : 2 ≤ sz) : ∀ j u, (B (Plain.hdrL nt 0 sz))[j]? = some u → (w.alloc (.cells ((Z8 sz).setIfInBounds 0 (.int .u8 nt)) 5)).cell? ((⟨w.heap.size, 0, none⟩ : Addr).add j) = some u :=
  arr_cells w _ _ (by rw [Array.toList_setIfInBounds, Z8_list, B_set, set0 nt sz h])
theorem hdr_cells1 (w : World) (sz : Nat) (nt x : Int) (h : 2 ≤ sz) : ∀ j u, (B (Plain.hdrL nt x sz))[j]? = some u → (w.alloc (.cells (((Z8 sz).setIfInBounds 0 (.int .u8 nt)).setIfInBounds 1 (.int .u8 x)) 5)).cell? ((⟨w.heap.size, 0, none⟩ : Addr).add j) = some u :=
  arr_cells w _ _ (by rw [Array.toList_setIfInBounds, Array.toList_setIfInBounds, Z8_list, B_set, B_set, set01 nt x sz h])

def HF (pl : Nat) (f : Int) : List Int := [96, 0, 0, 0, (pl : Int) / 256, (pl : Int) % 256, f] ++ List.replicate 33 0
theorem HF_len (pl : Nat) (f : Int) : (HF pl f).length = 40 := by simp [HF]
theorem set_HF (l : List Int) (pl : Nat) (f : Int) : (((H0L ++ l).set 4 ((pl : Int) / 256)).set 5 ((pl : Int) % 256)).set 6 f = HF pl f ++ l := by
  simp [H0L, HF, List.replicate_succ]
theorem take_cells (w W : World) (hb : Below w.heap.size w W) (x : Addr) (p : Nat) (ps : List Int) (h : Row w (some x) p ps) : ∀ j u, (B (ps.take p))[j]? = some u → W.cell? (x.add j) = some u := by
  intro j u hu
  rw [B_get, List.getElem?_take] at hu
  split at hu
  · rename_i hj
    obtain ⟨y, hy, hc⟩ := h.1 j hj
    cases hy
    rw [hb.cell (World.block_lt_of_cell? w _ hc), hc]
    cases hq : ps[j]? with
    | none => simp [hq] at hu
    | some q => simp [hq] at hu; simp [List.getD, hq, hu]
  · simp at hu

theorem own_cap {w : World} {base g n cap : Nat} {xs : List Value} (h : w.ownsRow base 5 1 (.slice (some ⟨g, 0, none⟩) n cap) n xs) : n ≤ cap ∧ cap ≤ maxLen := by
  rcases h.2 with ⟨h', _⟩ | ⟨g', cap', cur, h', hb, hg, hnc, hcm, _⟩
  · simp at h'
  · simp only [Value.slice.injEq, Option.some.injEq, Addr.mk.injEq, and_true, true_and] at h'
    obtain ⟨rfl, rfl⟩ := h'
    exact ⟨hnc, hcm⟩

theorem HF_len' (ks : List Int) (i : Nat) (ls : List Int) (m pl : Nat) (f : Int) (Z : List Int) : (HF pl f ++ Plain.Body ks i ls m i ++ Z).length = 40 + (Plain.Body ks i ls m i).length + Z.length := by
  simp only [List.length_append, HF_len]
theorem off_le (ks : List Int) (n : Nat) (ls : List Int) (m a b : Nat) (h : a ≤ b) : Plain.off ks n ls m a ≤ Plain.off ks n ls m b := by
  have := Plain.Body_mono ks n ls m a (b - a)
  rw [show a + (b - a) = b from by omega] at this
  unfold Plain.off; omega
/-- What ipv6SCTP must find: each header, and the packet's head. -/
theorem heads_of (ks : List Int) (n : Nat) (ls : List Int) (m : Nat) (w : World) (base g cap len pl : Nat) (Z : List Int)
    (h : w.ownsRow base 5 1 (.slice (some ⟨g, 0, none⟩) len cap) len (B (HF pl (Plain.nx ks n 0) ++ Plain.Body ks n ls m n ++ Z))) (hl : (HF pl (Plain.nx ks n 0) ++ Plain.Body ks n ls m n ++ Z).length = len) :
    (∀ i, i < n → Head w g (Plain.nx ks n) (Plain.off ks n ls m) (Plain.x1 ks n ls m) i) ∧ w.cell? ⟨g, 0, none⟩ = some (.int .u8 96) ∧ w.cell? ⟨g, 4, none⟩ = some (.int .u8 ((pl : Int) / 256)) ∧ w.cell? ⟨g, 5, none⟩ = some (.int .u8 ((pl : Int) % 256)) ∧ w.cell? ⟨g, 6, none⟩ = some (.int .u8 (Plain.nx ks n 0)) := by
  have hlen : len = 40 + (Plain.Body ks n ls m n).length + Z.length := by rw [← hl]; simp only [List.length_append, HF_len]
  have hcell : ∀ q, q < len → w.cell? ⟨g, q, none⟩ = ((HF pl (Plain.nx ks n 0) ++ Plain.Body ks n ls m n ++ Z)[q]?).map (Value.int .u8) := fun q hq => by
    rw [h.cellAt q (by omega), B_get]
  refine ⟨?_, ?_, ?_, ?_, ?_⟩
  · intro i hi
    have hsz := Plain.sz_bd ks n ls m i
    have hsuc := Plain.off_succ ks n ls m i
    have hle := off_le ks n ls m (i + 1) n (by omega)
    have hoffn : Plain.off ks n ls m n = 40 + (Plain.Body ks n ls m n).length := rfl
    have hget := fun j hj => Plain.get_hd ks n ls m (HF pl (Plain.nx ks n 0)) Z (HF_len _ _) i n hi j hj
    have hc := fun j (hj : j < Plain.sz ks n ls m i) => (hcell (Plain.off ks n ls m i + j) (by omega)).trans (by rw [hget j hj])
    have hx := Plain.x1_bd ks n ls m i
    have hc0 := hc 0 (by omega)
    have hc1 := hc 1 (by omega)
    have hc2 := hc 2 (by omega)
    have hc3 := hc 3 (by omega)
    simp at hc0 hc1 hc2 hc3
    have hu := Plain.uo_bd ls m i
    refine ⟨hc0, by omega, hx.1, hx.2, ?_⟩
    have hnx : Plain.nx ks n i = Plain.T (ks.getD i 0) := by unfold Plain.nx; rw [if_pos hi]
    by_cases h44 : Plain.nx ks n i = 44
    · refine .inr (.inl ⟨h44, hc2, hc3, ?_⟩)
      rw [hsuc]; unfold Plain.sz Plain.szo; rw [if_pos h44]
    · have hx1 : Plain.x1 ks n ls m i = Plain.uo ls m i := by unfold Plain.x1; rw [if_neg h44]
      by_cases h51 : Plain.nx ks n i = 51
      · refine .inr (.inr ⟨h51, hc1, ?_⟩)
        have : Plain.sz ks n ls m i = ((Plain.uo ls m i + 2) * 4).toNat := by unfold Plain.sz Plain.szo; rw [if_neg h44, if_pos h51]
        rw [hsuc, this, hx1]; omega
      · refine .inl ⟨?_, hc1, ?_⟩
        · have := Plain.T_cases (ks.getD i 0); rw [← hnx] at this; omega
        · have : Plain.sz ks n ls m i = ((Plain.uo ls m i + 1) * 8).toNat := by unfold Plain.sz Plain.szo; rw [if_neg h44, if_neg h51]
          rw [hsuc, this, hx1]; omega
  · rw [hcell 0 (by omega)]; simp [HF]
  · rw [hcell 4 (by omega)]; simp [HF]
  · rw [hcell 5 (by omega)]; simp [HF]
  · rw [hcell 6 (by omega)]; simp [HF]

set_option maxHeartbeats 4000000 in
set_option maxRecDepth 100000 in
theorem walk_row (a0 a1 a2 : Option Addr) (n cap0 m cap1 p cap2 : Nat) (ks ls ps : List Int) (s : Int) (w : World) (hn : n ≤ 256) (hp : p ≤ 1024)
    (h0 : Row w a0 n ks) (h1 : Row w a1 m ls) (h2 : Row w a2 p ps) (h2n : a2 = none → cap2 = 0 ∧ p = 0) (hm : m ≤ maxLen) (s0 : 0 ≤ s) (s1 : s < 256) :
    Calls Yba.prog 4 #[.slice a0 n cap0, .slice a1 m cap1, .slice a2 p cap2, .int .u8 s] w fun e w' => e = .returned (.bool true) ∧ Below w.heap.size w w' := by
  have hm40 : ∀ w : World, (Instr.makeSlice 22 (.int .i64 40) (.int .i64 40)).run Yba.prog w = .ok (.slice (some ⟨w.heap.size, 0, none⟩) 40 40) (w.alloc (.cells (Z8 40) 5)) := fun w => by simpa using mk22 40 (by omega) w
  have hn' : ¬ (256 : Int) < (n : Int) := by omega
  have hp' : ¬ (1024 : Int) < (p : Int) := by omega
  have H0 : Hid (Row w a0 n ks) := h0
  have H1 : Hid (Row w a1 m ls) := h1
  have H2 : Hid (Row w a2 p ps) := h2
  have H2n : Hid (a2 = none → cap2 = 0 ∧ p = 0) := h2n
  clear h0 h1 h2 h2n
  go_enter Yba.func4, Yba.ntmps4
  go_upto_if 37 with fail
  go_cut [11] (fun s11 wx => s11 = .int .u8 (Plain.nx ks n 0) ∧ wx.ownsRow (w.heap.size + 1) 5 1 (.slice (some ⟨w.heap.size + 1, 0, none⟩) 40 40) 40 (B H0L) ∧ Below (w.heap.size + 1) (w.alloc (.cells tbl 28)) wx)
  case first =>
    have hown := start_own (w.alloc (.cells tbl 28)) (w.heap.size + 1) (w.heap.size + 1) (by simp) (by simp)
    have hbel : Below (w.heap.size + 1) (w.alloc (.cells tbl 28)) ((w.alloc (.cells tbl 28)).alloc (.cells ((Z8 40).setIfInBounds 0 (.int .u8 96)) 5)) := (Below.refl _ _).alloc (by simp) _
    by_cases hn0 : 0 < n
    · obtain ⟨x, rfl, hc0⟩ := H0.out.1 0 hn0
      rw [show x.add 0 = x from by simp [go_sem]] at hc0
      have hx0 : x.block < w.heap.size := World.block_lt_of_cell? w _ hc0
      have hx1 : x.block < w.heap.size + 1 := by omega
      have htc := tbl_get (ks.getD 0 0)
      have hk0 := H0.out.2.1 0
      have HNX : Hid (Plain.nx ks n 0 = Plain.T (ks.getD 0 0)) := by unfold Hid Plain.nx; rw [if_pos hn0]
      obtain ⟨k0, k1⟩ := hk0
      generalize ks.getD 0 0 = kk at *
      go_wp2_with fail
      go_meet
      exact ⟨by rw [HNX.out], hown, hbel⟩
    · have hn1 : n = 0 := by omega
      subst hn1
      go_wp2_with fail
      go_meet
      exact ⟨by simp [Plain.nx], hown, hbel⟩
  case rest =>
    obtain ⟨rfl, hown, hbel⟩ := hcut
    have HB0 := hbel
    go_wp2_with fail
    go_loopw [10, 47] (fun pk c wr => ∃ i g cap : Nat, i ≤ n ∧ c = .int .i64 i ∧ pk = .slice (some ⟨g, 0, none⟩) (Plain.off ks n ls m i) cap ∧ w.heap.size + 1 ≤ g ∧ wr.ownsRow (w.heap.size + 1) 5 1 (.slice (some ⟨g, 0, none⟩) (Plain.off ks n ls m i) cap) (Plain.off ks n ls m i) (B (H0L ++ Plain.Body ks n ls m i)) ∧ Below (w.heap.size + 1) (w.alloc (.cells tbl 28)) wr) (fun _ c _ => n - (intOf c).toNat)
    case atStart => exact ⟨0, w.heap.size + 1, 40, by omega, rfl, rfl, by omega, hown, hbel⟩
    case round =>
      obtain ⟨i, g, cap, hi, rfl, rfl, hg, hown, hb⟩ := hrel
      clear HB0
      by_cases hlt : i < n
      · obtain ⟨x, rfl, hci⟩ := H0.out.1 i hlt
        have hxb : x.block < w.heap.size := by rw [← add_block x i]; exact World.block_lt_of_cell? w _ hci
        have hbw : Below w.heap.size w wr := ((Below.refl w.heap.size w).alloc (Nat.le_refl _) _).trans (hb.mono (by omega))
        have hci' : wr.cell? (x.add i) = some (.int .u8 (ks.getD i 0)) := by rw [hbw.cell (by rw [add_block]; exact hxb)]; exact hci
        have htc := tbl_cell w wr hb (ks.getD i 0)
        have hki := H0.out.2.1 i
        obtain ⟨k0, k1⟩ := hki
        have HNXI : Hid (Plain.nx ks n i = Plain.T (ks.getD i 0)) := by unfold Hid Plain.nx; rw [if_pos hlt]
        have HOWN : Hid (wr.ownsRow (w.heap.size + 1) 5 1 (.slice (some ⟨g, 0, none⟩) (Plain.off ks n ls m i) cap) (Plain.off ks n ls m i) (B (H0L ++ Plain.Body ks n ls m i))) := hown
        have HB : Hid (Below (w.heap.size + 1) (w.alloc (.cells tbl 28)) wr) := hb
        have HBW : Hid (Below w.heap.size w wr) := hbw
        clear hown hb hbw hci
        generalize ks.getD i 0 = kk at *
        go_upto_if 61 with fail
        go_cut [15] (fun s15 wx => s15 = .int .u8 (Plain.nx ks n (i + 1)) ∧ wx = wr)
        case first =>
          by_cases hlt2 : i + 1 < n
          · obtain ⟨y, hy, hci2⟩ := H0.out.1 (i + 1) hlt2
            cases hy
            have hci3 : wr.cell? (x.add (i + 1)) = some (.int .u8 (ks.getD (i + 1) 0)) := by rw [HBW.out.cell (by rw [add_block]; exact hxb)]; exact hci2
            rw [show x.add (i + 1) = ⟨x.block, x.off + (i + 1), none⟩ from by simp [Addr.add]] at hci3
            have htc2 := tbl_cell w wr HB.out (ks.getD (i + 1) 0)
            have hki2 := H0.out.2.1 (i + 1)
            obtain ⟨k02, k12⟩ := hki2
            have HNX2 : Hid (Plain.nx ks n (i + 1) = Plain.T (ks.getD (i + 1) 0)) := by unfold Hid Plain.nx; rw [if_pos hlt2]
            have hlt3 : (i : Int) + 1 < (n : Int) := by omega
            have hsum : ((i : Int) + 1).toNat = i + 1 := by omega
            generalize ks.getD (i + 1) 0 = kk2 at *
            clear hci2
            go_wp2_with fail
            go_meet
            exact ⟨by rw [HNX2.out], rfl⟩
          · have hlt3 : ¬ (i : Int) + 1 < (n : Int) := by omega
            have HNX2 : Hid (Plain.nx ks n (i + 1) = 132) := by unfold Hid Plain.nx; rw [if_neg hlt2]
            go_wp2_with fail
            go_meet
            exact ⟨by rw [HNX2.out], rfl⟩
        case rest =>
          obtain ⟨rfl, rfl⟩ := hcut
          have hnx2 := Plain.nx_bd ks n (i + 1)
          obtain ⟨nx0, nx1⟩ := hnx2
          go_upto_if 74 with fail
          go_cut [16] (fun s16 wx => s16 = .int .i64 (Plain.uo ls m i) ∧ wx = wc)
          case first =>
            by_cases hlm : i < m
            · obtain ⟨y, rfl, hcl⟩ := H1.out.1 i hlm
              have hyb : y.block < w.heap.size := by rw [← add_block y i]; exact World.block_lt_of_cell? w _ hcl
              have hcl' : wc.cell? (y.add i) = some (.int .u8 (ls.getD i 0)) := by rw [HBW.out.cell (by rw [add_block]; exact hyb)]; exact hcl
              have hkl := H1.out.2.1 i
              obtain ⟨l0, l1⟩ := hkl
              have HU : Hid (Plain.uo ls m i = ls.getD i 0 % 4) := by unfold Hid Plain.uo; rw [if_pos hlm]
              have hlm' : (i : Int) < (m : Int) := by omega
              generalize ls.getD i 0 = li at *
              clear hcl
              go_wp2_with fail
              go_meet
              exact ⟨by rw [HU.out], rfl⟩
            · have HU : Hid (Plain.uo ls m i = 0) := by unfold Hid Plain.uo; rw [if_neg hlm]
              have hlm' : ¬ (i : Int) < (m : Int) := by omega
              go_wp2_with fail
              go_meet
              exact ⟨by rw [HU.out], rfl⟩
          case rest =>
            obtain ⟨rfl, rfl⟩ := hcut
            have hub := Plain.uo_bd ls m i
            obtain ⟨u0, u1⟩ := hub
            have hoff := off_bd ks n ls m i (by omega)
            obtain ⟨o0, o1⟩ := hoff
            have hsuc := Plain.off_succ ks n ls m i
            have HSUC : Hid (Plain.off ks n ls m (i + 1) = Plain.off ks n ls m i + Plain.sz ks n ls m i) := hsuc
            have hbs := HB.out.size
            have hbs' : w.heap.size + 1 ≤ wc.heap.size := by simpa using hbs
            clear hsuc hbs
            have HEND : Hid (∀ (z : Nat) (arr : Array Value) (g' cap' : Nat) (w' : World), Plain.sz ks n ls m i = z → w'.ownsRow (w.heap.size + 1) 5 1 (.slice (some ⟨g', 0, none⟩) (Plain.off ks n ls m i + z) cap') (Plain.off ks n ls m i + z) (B (H0L ++ Plain.Body ks n ls m i ++ Plain.hd ks n ls m i)) → (wc.alloc (.cells arr 5)).grownBy w' (some g) → w.heap.size + 1 ≤ g' →
                ∃ i' g cap, i' ≤ n ∧ Value.int .i64 ((i : Int) + 1) = .int .i64 (i' : Nat) ∧ Value.slice (some ⟨g', 0, none⟩) (Plain.off ks n ls m i + z) cap' = .slice (some ⟨g, 0, none⟩) (Plain.off ks n ls m i') cap ∧ w.heap.size + 1 ≤ g ∧ w'.ownsRow (w.heap.size + 1) 5 1 (.slice (some ⟨g, 0, none⟩) (Plain.off ks n ls m i') cap) (Plain.off ks n ls m i') (B (H0L ++ Plain.Body ks n ls m i')) ∧ Below (w.heap.size + 1) (w.alloc (.cells tbl 28)) w') := by
              intro z arr g' cap' w' hz h1 h2 h3
              refine ⟨i + 1, g', cap', by omega, by go_num, by rw [HSUC.out, hz], h3, ?_, (HB.out.alloc hbs' _).grown h2 (by simp; omega) (fun k hk => by cases hk; exact hg)⟩
              rw [HSUC.out, hz, Plain.Body, ← List.append_assoc]
              exact h1
            by_cases h44 : Plain.T kk = 44
            · have HSZ : Hid (Plain.sz ks n ls m i = 8) := by unfold Hid Plain.sz Plain.szo; rw [HNXI.out, if_pos h44]
              have HHD : Hid (Plain.hd ks n ls m i = Plain.hdrL (Plain.nx ks n (i + 1)) 0 8) := by
                unfold Hid Plain.hd Plain.x1; rw [HSZ.out, HNXI.out, if_pos h44]
              have hmk : ∀ w : World, (Instr.makeSlice 22 (.int .i64 8) (.int .i64 8)).run Yba.prog w = .ok (.slice (some ⟨w.heap.size, 0, none⟩) 8 8) (w.alloc (.cells (Z8 8) 5)) := fun w => by simpa using mk22 8 (by omega) w
              generalize Plain.T kk = t at *
              subst h44
              have HOWN3 : Hid (∀ arr, (wc.alloc (.cells arr 5)).ownsRow (w.heap.size + 1) 5 1 (.slice (some ⟨g, 0, none⟩) (Plain.off ks n ls m i) cap) (Plain.off ks n ls m i) (B (H0L ++ Plain.Body ks n ls m i))) := fun arr => HOWN.out.alloc _
              go_wp2_with (first
                | (at_builtin; refine wpList_app rfl _ _ rfl (w.heap.size + 1) g cap (Plain.off ks n ls m i) (H0L ++ Plain.Body ks n ls m i) rfl (HOWN3.out _) ⟨wc.heap.size, 0, none⟩ 8 8 (Plain.hd ks n ls m i) rfl (by rw [Plain.hd_length, HSZ.out]) (by rw [HHD.out]; exact hdr_cells0 wc 8 _ (by omega)) (by omega) (by omega) (by simp; omega) ?_; intro g' cap' w' hown' hgrow' hg'))
              go_roundw
              case rel => exact HEND.out 8 _ g' cap' w' HSZ.out hown' hgrow' hg'
              case measure => simp [intOf]; omega
            · by_cases h51 : Plain.T kk = 51
              · have HSZ0 : Hid (Plain.sz ks n ls m i = ((Plain.uo ls m i + 2) * 4).toNat) := by unfold Hid Plain.sz Plain.szo; rw [HNXI.out, if_neg h44, if_pos h51]
                obtain ⟨z, hz⟩ : ∃ z : Nat, ((Plain.uo ls m i + 2) * 4 : Int) = (z : Int) := Int.eq_ofNat_of_zero_le (by omega)
                have HSZ : Hid (Plain.sz ks n ls m i = z) := by unfold Hid; rw [HSZ0.out, hz]; simp
                have hz8 : 8 ≤ z := by omega
                have hz32 : z ≤ 32 := by omega
                have hz00 : 0 < z := by omega
                have hz11 : 1 < z := by omega
                have HHD : Hid (Plain.hd ks n ls m i = Plain.hdrL (Plain.nx ks n (i + 1)) (Plain.uo ls m i) z) := by
                  unfold Hid Plain.hd Plain.x1; rw [HSZ.out, HNXI.out, if_neg h44]
                have hmk := mk22 z (by omega)
                clear HSZ0
                generalize Plain.uo ls m i = u at *
                generalize Plain.T kk = t at *
                subst h51
                have HOWN3 : Hid (∀ arr, (wc.alloc (.cells arr 5)).ownsRow (w.heap.size + 1) 5 1 (.slice (some ⟨g, 0, none⟩) (Plain.off ks n ls m i) cap) (Plain.off ks n ls m i) (B (H0L ++ Plain.Body ks n ls m i))) := fun arr => HOWN.out.alloc _
                go_wp2_with (first
                  | (at_builtin; refine wpList_app rfl _ _ rfl (w.heap.size + 1) g cap (Plain.off ks n ls m i) (H0L ++ Plain.Body ks n ls m i) rfl (HOWN3.out _) ⟨wc.heap.size, 0, none⟩ z z (Plain.hd ks n ls m i) rfl (by rw [Plain.hd_length, HSZ.out]) (by rw [HHD.out]; exact hdr_cells1 wc z _ _ (by omega)) (by omega) (by omega) (by simp; omega) ?_; intro g' cap' w' hown' hgrow' hg'))
                go_roundw
                case rel => exact HEND.out z _ g' cap' w' HSZ.out hown' hgrow' hg'
                case measure => simp [intOf]; omega
              · have HSZ0 : Hid (Plain.sz ks n ls m i = ((Plain.uo ls m i + 1) * 8).toNat) := by unfold Hid Plain.sz Plain.szo; rw [HNXI.out, if_neg h44, if_neg h51]
                obtain ⟨z, hz⟩ : ∃ z : Nat, ((Plain.uo ls m i + 1) * 8 : Int) = (z : Int) := Int.eq_ofNat_of_zero_le (by omega)
                have HSZ : Hid (Plain.sz ks n ls m i = z) := by unfold Hid; rw [HSZ0.out, hz]; simp
                have hz8 : 8 ≤ z := by omega
                have hz32 : z ≤ 32 := by omega
                have hz00 : 0 < z := by omega
                have hz11 : 1 < z := by omega
                have HHD : Hid (Plain.hd ks n ls m i = Plain.hdrL (Plain.nx ks n (i + 1)) (Plain.uo ls m i) z) := by
                  unfold Hid Plain.hd Plain.x1; rw [HSZ.out, HNXI.out, if_neg h44]
                have hmk := mk22 z (by omega)
                clear HSZ0
                generalize Plain.uo ls m i = u at *
                generalize Plain.T kk = t at *
                have g44 : (t == 44) = false := by simpa using h44
                have g51 : (t == 51) = false := by simpa using h51
                have g44n : (t != 44) = true := by simpa using h44
                have HOWN3 : Hid (∀ arr, (wc.alloc (.cells arr 5)).ownsRow (w.heap.size + 1) 5 1 (.slice (some ⟨g, 0, none⟩) (Plain.off ks n ls m i) cap) (Plain.off ks n ls m i) (B (H0L ++ Plain.Body ks n ls m i))) := fun arr => HOWN.out.alloc _
                go_wp2_with (first
                  | (at_builtin; refine wpList_app rfl _ _ rfl (w.heap.size + 1) g cap (Plain.off ks n ls m i) (H0L ++ Plain.Body ks n ls m i) rfl (HOWN3.out _) ⟨wc.heap.size, 0, none⟩ z z (Plain.hd ks n ls m i) rfl (by rw [Plain.hd_length, HSZ.out]) (by rw [HHD.out]; exact hdr_cells1 wc z _ _ (by omega)) (by omega) (by omega) (by simp; omega) ?_; intro g' cap' w' hown' hgrow' hg'))
                go_roundw
                case rel => exact HEND.out z _ g' cap' w' HSZ.out hown' hgrow' hg'
                case measure => simp [intOf]; omega
      · obtain rfl : i = n := by omega
        have hoff := off_bd ks i ls m i (by omega)
        have HBL : Hid ((Plain.Body ks i ls m i).length + 40 = Plain.off ks i ls m i) := by unfold Hid Plain.off; omega
        have HOFF : Hid (Plain.off ks i ls m i = 40 + (Plain.Body ks i ls m i).length) := rfl
        obtain ⟨o0, o1⟩ := hoff
        have HOWN : Hid (wr.ownsRow (w.heap.size + 1) 5 1 (.slice (some ⟨g, 0, none⟩) (Plain.off ks i ls m i) cap) (Plain.off ks i ls m i) (B (H0L ++ Plain.Body ks i ls m i))) := hown
        have HB : Hid (Below (w.heap.size + 1) (w.alloc (.cells tbl 28)) wr) := hb
        generalize hL : Plain.off ks i ls m i = L at *
        have HL : Hid (Plain.off ks i ls m i = L) := hL
        have c4 : wr.cell? ⟨g, 4, none⟩ = some (.int .u8 0) := by rw [HOWN.out.cellAt 4 (by omega), B_get]; simp [H0L]
        have c5 : wr.cell? ⟨g, 5, none⟩ = some (.int .u8 0) := by rw [HOWN.out.cellAt 5 (by omega), B_get]; simp [H0L]
        have c6 : wr.cell? ⟨g, 6, none⟩ = some (.int .u8 0) := by rw [HOWN.out.cellAt 6 (by omega), B_get]; simp [H0L]
        have f4 := HOWN.out.frozenAt 4
        have f5 := HOWN.out.frozenAt 5
        have f6 := HOWN.out.frozenAt 6
        clear hown hb hL
        obtain ⟨pl, hpl⟩ : ∃ pl : Nat, (L : Int) - 40 + (p : Int) = (pl : Int) := Int.eq_ofNat_of_zero_le (by omega)
        have hpl2 : pl ≤ 9216 := by omega
        have hl4 : 4 < L := by omega
        have hl5 : 5 < L := by omega
        have hl6 : 6 < L := by omega
        have hnx0 := Plain.nx_bd ks i 0
        obtain ⟨n0, n1⟩ := hnx0
        go_upto_region 34 with fail
        obtain ⟨W, hW, hownW, hbW⟩ : ∃ W, W = (((wr.setCell ⟨g, 4, none⟩ (.int .u8 ((pl : Int) / 256))).setCell ⟨g, 5, none⟩ (.int .u8 ((pl : Int) % 256))).setCell ⟨g, 6, none⟩ (.int .u8 (Plain.nx ks i 0)))
            ∧ W.ownsRow (w.heap.size + 1) 5 1 (.slice (some ⟨g, 0, none⟩) L cap) L (B (HF pl (Plain.nx ks i 0) ++ Plain.Body ks i ls m i)) ∧ Below (w.heap.size + 1) (w.alloc (.cells tbl 28)) W := by
          refine ⟨_, rfl, ?_, ((HB.out.setCell (p := ⟨g, 4, none⟩) hg _).setCell (p := ⟨g, 5, none⟩) hg _).setCell (p := ⟨g, 6, none⟩) hg _⟩
          have h3 := (((HOWN.out.stored 4 (.int .u8 ((pl : Int) / 256))).1.stored 5 (.int .u8 ((pl : Int) % 256))).1.stored 6 (.int .u8 (Plain.nx ks i 0))).1
          rw [B_set, B_set, B_set, set_HF] at h3
          exact h3
        rw [← hW]
        clear hW
        have hbs' : w.heap.size + 1 ≤ W.heap.size := by have := hbW.size; simpa using this
        have HOWNW : Hid (W.ownsRow (w.heap.size + 1) 5 1 (.slice (some ⟨g, 0, none⟩) L cap) L (B (HF pl (Plain.nx ks i 0) ++ Plain.Body ks i ls m i))) := hownW
        have HBW : Hid (Below (w.heap.size + 1) (w.alloc (.cells tbl 28)) W) := hbW
        have HBN : Hid (Below w.heap.size w W) := ((Below.refl w.heap.size w).alloc (Nat.le_refl _) _).trans (hbW.mono (by omega))
        clear hownW hbW c4 c5 c6 f4 f5 f6 HOWN HB
        go_cut [10] (fun s10 wx => ∃ g' cap' : Nat, s10 = .slice (some ⟨g', 0, none⟩) (L + p) cap' ∧ w.heap.size + 1 ≤ g' ∧ wx.ownsRow (w.heap.size + 1) 5 1 (.slice (some ⟨g', 0, none⟩) (L + p) cap') (L + p) (B (HF pl (Plain.nx ks i 0) ++ Plain.Body ks i ls m i ++ ps.take p)) ∧ Below (w.heap.size + 1) (w.alloc (.cells tbl 28)) wx)
        case first =>
          cases a2 with
          | none =>
            obtain ⟨rfl, rfl⟩ := H2n.out rfl
            have hLc := (own_cap HOWNW.out).1
            go_wp2_with fail
            go_meet
            exact ⟨g, cap, rfl, hg, by simpa using HOWNW.out, HBW.out⟩
          | some x =>
            go_wp2_with (first
              | (at_builtin; refine wpList_app rfl _ _ rfl (w.heap.size + 1) g cap L _ rfl HOWNW.out x p cap2 (ps.take p) rfl (by rw [List.length_take]; have := H2.out.2.2; omega) (take_cells w W HBN.out x p ps H2.out) (by omega) (by omega) hbs' ?_; intro g' cap' w' hown' hgrow' hg'))
            go_meet
            exact ⟨g', cap', rfl, hg', hown', HBW.out.grown hgrow' hbs' (fun k hk => by cases hk; exact hg)⟩
        case rest =>
          obtain ⟨g1, cap1', rfl, hg1, hown1, hb1⟩ := hcut
          obtain ⟨sl, hsl⟩ : ∃ sl : Nat, s % 16 = (sl : Int) := Int.eq_ofNat_of_zero_le (by omega)
          have hsl2 : sl ≤ 15 := by omega
          clear HOWNW HBW HBN hbs'
          go_wp2_with fail
          go_loopw [10, 20] (fun pk c wr => ∃ j g cap : Nat, j ≤ sl ∧ c = .int .i64 j ∧ pk = .slice (some ⟨g, 0, none⟩) (L + p + j) cap ∧ w.heap.size + 1 ≤ g ∧ wr.ownsRow (w.heap.size + 1) 5 1 (.slice (some ⟨g, 0, none⟩) (L + p + j) cap) (L + p + j) (B (HF pl (Plain.nx ks i 0) ++ Plain.Body ks i ls m i ++ ps.take p ++ List.replicate j 170)) ∧ Below (w.heap.size + 1) (w.alloc (.cells tbl 28)) wr) (fun _ c _ => sl - (intOf c).toNat)
          case atStart => exact ⟨0, g1, cap1', by omega, rfl, rfl, hg1, by simpa using hown1, hb1⟩
          case round =>
            obtain ⟨j, g2, cap2', hj, rfl, rfl, hg2, hown2, hb2⟩ := hrel
            have HOWN2 : Hid (wr.ownsRow (w.heap.size + 1) 5 1 (.slice (some ⟨g2, 0, none⟩) (L + p + j) cap2') (L + p + j) (B (HF pl (Plain.nx ks i 0) ++ Plain.Body ks i ls m i ++ ps.take p ++ List.replicate j 170))) := hown2
            have HB2 : Hid (Below (w.heap.size + 1) (w.alloc (.cells tbl 28)) wr) := hb2
            have hbs2 : w.heap.size + 1 ≤ wr.heap.size := by have := hb2.size; simpa using this
            clear hown2 hb2 hown1 hb1
            by_cases hjs : j < sl
            · have hjs' : (j : Int) < (sl : Int) := by omega
              go_wp2_with (first
                | (at_builtin; refine wpList_app rfl _ _ rfl (w.heap.size + 1) g2 cap2' (L + p + j) _ rfl (HOWN2.out.alloc _) ⟨wr.heap.size, 0, none⟩ 1 1 [170] rfl rfl (arr_cells wr _ _ rfl) (by omega) (by omega) (by simp; omega) ?_; intro g' cap' w' hown' hgrow' hg'))
              go_roundw
              case rel =>
                refine ⟨j + 1, g', cap', by omega, by go_num, rfl, hg', ?_, (HB2.out.alloc hbs2 _).grown hgrow' (by simp; omega) (fun k hk => by cases hk; exact hg2)⟩
                rw [List.replicate_succ', ← List.append_assoc]
                exact hown'
              case measure => simp [intOf]; omega
            · obtain rfl : j = sl := by omega
              have hjs' : ¬ (j : Int) < (j : Int) := by omega
              have HPL : Hid (40 + pl = L + p) := by unfold Hid; omega
              have hcaps := own_cap HOWN2.out
              have HALL := heads_of ks i ls m wr (w.heap.size + 1) g2 cap2' (L + p + j) pl (ps.take p ++ List.replicate j 170) (by simpa using HOWN2.out) (by rw [HF_len', HOFF.out, List.length_append, List.length_take, List.length_replicate]; have := H2.out.2.2; omega)
              have HSC : Hid (Calls Yba.prog 5 #[.slice (some ⟨g2, 0, none⟩) (L + p + j) cap2'] wr fun e w' => ∃ o c : Nat, e = .returned (.slice (some ⟨g2, o, none⟩) p c) ∧ (0 < p → o = L) ∧ Below wr.heap.size wr w') := by
                have h := sctp_calls g2 i (L + p + j) cap2' pl (Plain.nx ks i) (Plain.off ks i ls m) (Plain.x1 ks i ls m) wr hcaps.1 hcaps.2 (by omega) (by omega) (Plain.off_zero ks i ls m) (by rw [HL.out]; omega) (fun q hq => off_le ks i ls m (q + 1) i (by omega)) (Plain.nx_end ks i) (fun q hq => HALL.1 q hq) (Plain.nx_bd ks i 0) HALL.2.1 HALL.2.2.1 HALL.2.2.2.1 HALL.2.2.2.2
                rw [show 40 + pl - Plain.off ks i ls m i = p from by rw [HL.out]; omega, HL.out] at h
                exact h
              go_wp2_with fail
              refine HSC.out.mono ?_
              rintro e w3 ⟨o, c, rfl, ho, hb3⟩
              have he := fun w => Lib.run_eql_slice_nil (P := Yba.prog) w 22 5 (some ⟨g2, o, none⟩) p c 0 0 Yba.underlying22
              have HB3 : Hid (Below w.heap.size w w3) := (((Below.refl w.heap.size w).alloc (Nat.le_refl _) _).trans (HB2.out.mono (by omega))).trans (hb3.mono (by omega))
              have HRES : Hid (∀ q, q < p → w3.cell? ⟨g2, o + q, none⟩ = some (.int .u8 (ps.getD q 0))) := by
                intro q hq
                refine cell_kept hb3 ?_
                rw [ho (by omega), HOWN2.out.cellAt (L + q) (by omega), B_get]
                rw [List.append_assoc, List.getElem?_append_right (by rw [List.length_append, HF_len, ← HOFF.out]; omega), List.length_append, HF_len, ← HOFF.out, show L + q - L = q from by omega, List.getElem?_append_left (by rw [List.length_take]; have := H2.out.2.2; omega), List.getElem?_take, if_pos hq]
                have := H2.out.2.2
                simp [List.getD, show q < ps.length from by omega]
              clear HALL HSC hb3 ho HOWN2 HB2 hcaps
              go_wp2_with fail
              go_loopw [22] (fun c wr => ∃ (q nd : Nat), q ≤ p ∧ c = .int .i64 q ∧ wr = w3.drewN nd) (fun c _ => p - (intOf c).toNat)
              case atStart => exact ⟨0, 0, by omega, rfl, rfl⟩
              case round =>
                obtain ⟨q, nd, hq, rfl, rfl⟩ := hrel
                by_cases hqp : q < p
                · obtain ⟨x, rfl, hcx⟩ := H2.out.1 q hqp
                  have hcx2 : w3.cell? (x.add q) = some (.int .u8 (ps.getD q 0)) := by rw [HB3.out.cell (World.block_lt_of_cell? w _ hcx)]; exact hcx
                  have hcr := HRES.out q hqp
                  have hqp' : (q : Int) < (p : Int) := by omega
                  generalize ps.getD q 0 = pq at *
                  clear hcx
                  go_wp2_with fail
                  go_quiet (fail)
                  go_wp2_with fail
                  go_roundw
                  case rel => exact ⟨q + 1, _, by omega, by go_num, rfl⟩
                  case measure => simp [intOf]; omega
                · obtain rfl : q = p := by omega
                  have hqp' : ¬ (q : Int) < (q : Int) := by omega
                  go_wp2_with fail
                  go_ret
                  exact ⟨rfl, HB3.out.trans ⟨rfl, rfl, rfl, Nat.le_refl _, fun _ _ => rfl⟩⟩

set_option maxHeartbeats 1000000 in
set_option maxRecDepth 100000 in
theorem walk_long (a0 a1 a2 : Option Addr) (n cap0 m cap1 p cap2 : Nat) (s : Int) (w : World) (h : 256 < n ∨ 1024 < p) :
    Calls Yba.prog 4 #[.slice a0 n cap0, .slice a1 m cap1, .slice a2 p cap2, .int .u8 s] w fun e w' => e = .returned (.bool true) ∧ Below w.heap.size w w' := by
  by_cases hn : 256 < n
  · have hn' : (256 : Int) < (n : Int) := by omega
    go_enter Yba.func4, Yba.ntmps4
    go_wp2_with fail
    go_ret
    exact ⟨rfl, Below.refl _ _⟩
  · have hn' : ¬ (256 : Int) < (n : Int) := by omega
    have hp' : (1024 : Int) < (p : Int) := by omega
    go_enter Yba.func4, Yba.ntmps4
    go_wp2_with fail
    go_ret
    exact ⟨rfl, Below.refl _ _⟩

theorem row_of {w : World} {a : Option Addr} {len cap : Nat} {zs : List Int} (h : IsRow .u8 w a len cap zs) : Row w a len zs := by
  rcases h with ⟨rfl, rfl, rfl, rfl⟩ | ⟨x, rfl, h1, h2, h3, h4, h5⟩
  · exact ⟨fun j hj => by omega, fun j => by simp, by simp⟩
  · refine ⟨fun j hj => ⟨x, rfl, h4 j (by omega)⟩, fun j => ?_, by omega⟩
    by_cases hj : j < zs.length
    · exact wf_u8 (h5 _ (by simp [List.getD, hj]))
    · simp [List.getD, hj]
theorem none_of {w : World} {a : Option Addr} {len cap : Nat} {zs : List Int} (h : IsRow .u8 w a len cap zs) : a = none → cap = 0 ∧ len = 0 := by
  intro ha
  rcases h with ⟨_, rfl, rfl, _⟩ | ⟨x, rfl, _⟩
  · exact ⟨rfl, rfl⟩
  · cases ha
theorem len_of {w : World} {a : Option Addr} {len cap : Nat} {zs : List Int} (h : IsRow .u8 w a len cap zs) : len ≤ maxLen := by
  rcases h with ⟨_, rfl, rfl, _⟩ | ⟨x, rfl, h1, h2, _⟩
  · exact Nat.zero_le _
  · omega

theorem walk (a0 : Option Addr) (len0 cap0 : Nat) (z0 : List Int) (a1 : Option Addr) (len1 cap1 : Nat) (z1 : List Int) (a2 : Option Addr) (len2 cap2 : Nat) (z2 : List Int) (a3 : Int) (w : World) (w0 : IsRow .u8 w a0 len0 cap0 z0) (w1 : IsRow .u8 w a1 len1 cap1 z1) (w2 : IsRow .u8 w a2 len2 cap2 z2) (w3 : (Lit.int .u8 a3).wf = true) :
    Calls Yba.prog 4 #[.slice a0 len0 cap0, .slice a1 len1 cap1, .slice a2 len2 cap2, .int .u8 a3] w fun e w' => e = .returned (.bool true) ∧ Below w.heap.size w w' := by
  by_cases h : 256 < len0 ∨ 1024 < len2
  · exact walk_long _ _ _ _ _ _ _ _ _ _ _ h
  · exact walk_row a0 a1 a2 len0 cap0 len1 cap1 len2 cap2 z0 z1 z2 a3 w (by omega) (by omega) (row_of w0) (row_of w1) (row_of w2) (none_of w2) (len_of w1) (wf_u8 w3).1 (wf_u8 w3).2

/-! ### THE ROW's STEP: WRITTEN OUT: LEAVE IT -/
set_option maxRecDepth 100000 in
theorem lifted (os : Os) (started : os.Started) (H : Type) (enc : TypeId × Value → H) :
    ReturnsInHanded {} Yba.checked os 4 .any (Rows.lawS4122BBuiltSpec.pre6 enc Yba.prog Yba.f4 Rows.lawS4122BBuiltRow.domain false) (Rows.lawS4122BBuiltSpec.post enc Yba.prog Yba.f4 false true false false) := by
  refine returnsInHanded_of_change (C := Yba.checked) own started (by kernel_rfl) Yba.func4
    (ChangeSpec.witness6 (enc := enc) (C := Yba.checked) false ⟨#[], #[.slice none 0 0, .slice none 0 0, .slice none 0 0, .int .u8 0], []⟩ 8 (by kernel_rfl) (by kernel_rfl) (by kernel_rfl) (by kernel_rfl)) ?_
  intro W base args ds gs before hval0 hW hcnd _
  have hval : ∀ (j : Nat) t v, Yba.f4.params[j]? = some t → args[j]? = some v → Value.okWide Yba.prog W .any base t v := hval0
  have hW' := hW
  obtain ⟨p, q, hA0, hV, rfl, hfz, hnd⟩ := hW
  have hA : DataW.TrodAll enc Yba.prog W 0 (fun _ => true) true Yba.f4.params.toList args.toList ds p := hA0
  rw [Yba.params4] at hA hval
  obtain ⟨v0, vs0, d0, ds0, p0, q0, hargs, rfl, rfl, h0, r0⟩ := trodAll_cons hA
  obtain ⟨v1, vs1, d1, ds1, p1, q1, rfl, rfl, rfl, h1, r1⟩ := trodAll_cons r0
  obtain ⟨v2, vs2, d2, ds2, p2, q2, rfl, rfl, rfl, h2, r2⟩ := trodAll_cons r1
  obtain ⟨v3, vs3, d3, ds3, p3, q3, rfl, rfl, rfl, h3, r3⟩ := trodAll_cons r2
  obtain ⟨rfl, rfl, rfl⟩ := trodAll_nil r3
  obtain rfl : args = #[v0, v1, v2, v3] := by cases args; simp_all
  obtain ⟨rfl, rfl⟩ := trodVars_none hV
  obtain ⟨a0, len0, cap0, rfl⟩ := okWide_slice Yba.underlying22 (hval 0 22 v0 rfl rfl)
  have k0 := h0
  have lt0 : ∀ x ∈ p0, x.block < W.heap.size := by obtain ⟨m, hm⟩ := k0; exact DataW.trod_lt m _ _ _ hm
  obtain ⟨z0, w0⟩ : ∃ zs, IsRow .u8 W a0 len0 cap0 zs := by
    obtain ⟨fuel, hf⟩ := h0
    rcases open_ints Yba.underlying22 Yba.underlying5 (by kernel_rfl) hf with ⟨hcs, _⟩ | ⟨x, l, c, zs, hcs, _, hl, hm, hz, _, hcell, hwz⟩
    · simp [Value.cells] at hcs
      obtain ⟨rfl, rfl, rfl⟩ := hcs
      exact ⟨[], .inl ⟨rfl, rfl, rfl, rfl⟩⟩
    · simp [Value.cells] at hcs
      obtain ⟨rfl, rfl, rfl⟩ := hcs
      exact ⟨zs, .inr ⟨_, rfl, hl, hm, by simpa using hz, hcell, hwz⟩⟩
  obtain ⟨a1, len1, cap1, rfl⟩ := okWide_slice Yba.underlying22 (hval 1 22 v1 rfl rfl)
  have k1 := h1
  have lt1 : ∀ x ∈ p1, x.block < W.heap.size := by obtain ⟨m, hm⟩ := k1; exact DataW.trod_lt m _ _ _ hm
  obtain ⟨z1, w1⟩ : ∃ zs, IsRow .u8 W a1 len1 cap1 zs := by
    obtain ⟨fuel, hf⟩ := h1
    rcases open_ints Yba.underlying22 Yba.underlying5 (by kernel_rfl) hf with ⟨hcs, _⟩ | ⟨x, l, c, zs, hcs, _, hl, hm, hz, _, hcell, hwz⟩
    · simp [Value.cells] at hcs
      obtain ⟨rfl, rfl, rfl⟩ := hcs
      exact ⟨[], .inl ⟨rfl, rfl, rfl, rfl⟩⟩
    · simp [Value.cells] at hcs
      obtain ⟨rfl, rfl, rfl⟩ := hcs
      exact ⟨zs, .inr ⟨_, rfl, hl, hm, by simpa using hz, hcell, hwz⟩⟩
  obtain ⟨a2, len2, cap2, rfl⟩ := okWide_slice Yba.underlying22 (hval 2 22 v2 rfl rfl)
  have k2 := h2
  have lt2 : ∀ x ∈ p2, x.block < W.heap.size := by obtain ⟨m, hm⟩ := k2; exact DataW.trod_lt m _ _ _ hm
  obtain ⟨z2, w2⟩ : ∃ zs, IsRow .u8 W a2 len2 cap2 zs := by
    obtain ⟨fuel, hf⟩ := h2
    rcases open_ints Yba.underlying22 Yba.underlying5 (by kernel_rfl) hf with ⟨hcs, _⟩ | ⟨x, l, c, zs, hcs, _, hl, hm, hz, _, hcell, hwz⟩
    · simp [Value.cells] at hcs
      obtain ⟨rfl, rfl, rfl⟩ := hcs
      exact ⟨[], .inl ⟨rfl, rfl, rfl, rfl⟩⟩
    · simp [Value.cells] at hcs
      obtain ⟨rfl, rfl, rfl⟩ := hcs
      exact ⟨zs, .inr ⟨_, rfl, hl, hm, by simpa using hz, hcell, hwz⟩⟩
  obtain ⟨a3, rfl, rfl, rfl, w3⟩ := open_int Yba.underlying5 (hval 3 5 v3 rfl rfl) h3
  clear hA0 hval0
  refine (walk a0 len0 cap0 z0 a1 len1 cap1 z1 a2 len2 cap2 z2 a3 W w0 w1 w2 w3).mono fun e W' ⟨he, bel⟩ => ?_
  subst he
  exact ⟨_, rfl, _, _, _, [], _, [], hW', trodAll_mk1 (shut_bool Yba.underlying4 _), (trodAll_cons_mk (Below.trod laidOut (by kernel_rfl) (of_decide_eq_true (by kernel_rfl)) k0 bel lt0) (trodAll_cons_mk (Below.trod laidOut (by kernel_rfl) (of_decide_eq_true (by kernel_rfl)) k1 bel lt1) (trodAll_cons_mk (Below.trod laidOut (by kernel_rfl) (of_decide_eq_true (by kernel_rfl)) k2 bel lt2) (trodAll_cons_mk (shut_int Yba.underlying5 w3) trodAll_mk0)))), rfl, bel.frame _, fun h => by cases h⟩

theorem over : Rows.lawS4122BBuiltRow.holds Yba.pinned (OpenSpec.ofChange Rows.lawS4122BBuiltSpec) :=
  OpenClaim.holds_of_wide 4 Yba.f4 rfl rfl rfl rfl rfl rfl rfl ⟨rfl, rfl, rfl, rfl, rfl⟩ rfl rfl rfl rfl rfl (by kernel_rfl) Yba.func4 (by kernel_rfl)
    (of_decide_eq_true (by kernel_rfl)) (by unfold Func.isWrapper; first | (rw [if_pos (by decide +kernel)]; kernel_rfl) | (rw [if_neg (by decide +kernel)]; exact ⟨rfl, rfl⟩))
    (fun os started H enc _ => lifted os started H enc)

/-- ████ THE STATEMENT ████ -/
theorem proved : Rows.LawS4122BBuiltSaid := over
#print axioms proved
end Go.Proofs.Ybulkcgio.lawS4122BBuilt
