import Derived.Test.YbulkcgjqFmtKit17
import Derived.StillTailTactics
import Derived.Deep.CutRange
import Derived.Deep.DeepCutAuto
namespace Go.Proofs.YbulkcgjqFmt
set_option linter.unusedSimpArgs false
set_option linter.unusedVariables false
open Go.ChangeShapes Go.WideShapes Go.ChangeAt Go.RowKit Go.Sort

def ConnectSaid : Prop := ∀ (B Mb gb nb cE nE N cap : Nat) (cn : Nat → Nat → Nat) (k : KP) (c p1 : List Nat) (p2 : List (Option En)) (A E : List En) (fin : Plain.St) (w : World) (hB : B ≤ w.heap.size) (hK : Kn w B k) (hm : Mh w B Mb gb nb cE nE N cn) (hall : ∀ e c, e < nE → c < 11 → ∃ x : Int, w.cell? ⟨gb, e * 11 + c, none⟩ = some (.int (kC c) x)) (hc : ∀ e c, e < nE → c < 4 → cn e c < N) (hcap : cap = 4 * nE) (hE : nE ≤ 64) (hN : N ≤ 81)
    (hcnt : Plain.cnt (List.replicate (N + 1) 0) (unL cn cap) = some c) (hput : Plain.puts (Plain.sums c 1 N, List.replicate cap none) (unL cn cap) = some (p1, p2)) (hal : Plain.alls p2 = some A) (hbk : Plain.buckets 0 A (p1.take N) = some E)
    (hrun : Plain.runsF cn 300 E ⟨List.replicate cap (0, 0, 0), 0, 0⟩ = some fin) (hEl : E.length = cap) (hEe : ∀ i, i < cap → (E.getD i En.z).e < nE ∧ (E.getD i En.z).f < 4) (hfin : fin.bnd < 1000 ∧ fin.inn < 1000),
    Calls Ybaf.prog 9 #[.pointer (some ⟨Mb, 0, none⟩)] w fun e w' => ∃ Gb fb sb Eb, e = .returned (.tuple #[.pointer (some ⟨sb + 1, 0, none⟩), .nilIface]) ∧ Rs w w' B Mb gb nb cE nE N Gb fb sb Eb cap cn k E fin
set_option maxRecDepth 20000 in
set_option maxHeartbeats 0 in
def conA : { P : Prop // Hid P → ConnectSaid } := Subtype.mk _ (by
  intro hP
  unfold ConnectSaid
  intro B Mb gb nb cE nE N cap cn k c p1 p2 A E fin w hB hK hm hall hc hcap hE hN hcnt hput hal hbk hrun hEl hEe hfin
  have hchk := hide' (check_calls B Mb gb nb cE nE N cn k w hB hK hm hc (by omega) (by omega))
  have HH := hide' (And.intro hB (And.intro hK (And.intro hm hall)))
  have hmk1 : ∀ w : World, (Instr.makeSlice 35 (.int .i64 ((nE : Int) + 1)) (.int .i64 ((nE : Int) + 1))).run Ybaf.prog w = .ok (.slice (some ⟨w.heap.size, 0, none⟩) (nE + 1) (nE + 1)) (w.alloc (.cells (madeCells #[.int .i32 0] (nE + 1)) 21)) := fun w => by
    rw [show (nE : Int) + 1 = ((nE + 1 : Nat) : Int) from by omega]; exact mk35 (nE + 1) (by omega) w
  have HP := hide' (And.intro hcnt (And.intro hput (And.intro hal hbk)))
  have HRUN := hide' (And.intro hrun (And.intro hEl hEe))
  have HFIN := hide' hfin
  clear hB hK hm hc hall hcnt hput hal hbk hrun hEl hEe hfin
  go_enter Ybaf.func9, Ybaf.ntmps9
  go_wp2_with (first
    | (go_at_call 22; refine hchk.out.mono ?_; rintro e' w1 ⟨rfl, hb1⟩; have HB1 := hide' hb1; have hgl := hide' (glued_calls B Mb gb nb cE nE N cn w1 (HH.out.2.2.1.kept (hb1.mono HH.out.1))); clear hb1)
    | (go_at_call 23; refine hgl.out.mono ?_; rintro e' w2 ⟨rfl, hb2, g0, g1, g2, g3, hlt2⟩; have hcc := Cc.mk (w := w) ((HH.out.2.2.1.kept (HB1.out.mono HH.out.1)).kept (hb2.mono (Nat.le_trans HH.out.1 HB1.out.size))) ((HH.out.2.1.kept (HB1.out.mono HH.out.1)).kept (hb2.mono (Nat.le_trans HH.out.1 HB1.out.size))) (fun e c he hc => by rw [hb2.cell (p := ⟨gb, e * 11 + c, none⟩) (Nat.lt_of_lt_of_le HH.out.2.2.1.bg (Nat.le_trans HH.out.1 HB1.out.size)), HB1.out.cell (p := ⟨gb, e * 11 + c, none⟩) (Nat.lt_of_lt_of_le HH.out.2.2.1.bg HH.out.1)]; exact HH.out.2.2.2 e c he hc) g1 g2 g3 (HB1.out.trans (hb2.mono HB1.out.size)) HB1.out.size hlt2 HH.out.1; have c2 := hcc.mh.c2; have c2' : ∀ o, (w2.alloc o).cell? ⟨Mb, 2, none⟩ = some (.slice (some ⟨gb, 0, none⟩) nE cE) := fun o => ((Below.alloc (Below.refl w2.heap.size w2) (Nat.le_refl _) o).cell (p := ⟨Mb, 2, none⟩) (World.block_lt_of_cell? w2 _ c2)).trans c2; have HCC := hide' hcc; clear hb2 hlt2 hcc g0 g1 g2 g3))
  have HFS := hide' (Ft.start w2 nE)
  have HCS := hide' (And.intro (HCC.out.kept (X := w2.heap.size) (Below.alloc (Below.refl _ _) (Nat.le_refl _) (.cells (madeCells #[.int .i32 0] (nE + 1)) 21)) HCC.out.hi) HCC.out.hi)
  clear hmk1 hchk hgl HB1 c2 c2' HH HCC
  generalize w1.heap.size = Gb at *
  generalize w2.heap.size = fb at *
  generalize (w2.alloc (.cells (madeCells #[.int .i32 0] (nE + 1)) 21)) = w3 at *
  clear w1 w2
  go_loopg [59] nE (fun g s59 wr => ∃ e : Nat, s59 = .int .i64 e ∧ e ≤ nE ∧ g = nE - e ∧ Hid (Cc w wr B Mb gb nb cE nE N Gb cn k ∧ Ft wr fb nE e))
  case atStart => exact ⟨0, rfl, by omega, by omega, HCS.out.1, HFS.out⟩
  case round =>
    obtain ⟨e, rfl, he, hg, HR⟩ := hrel
    have HGF := hide' HCS.out.2
    have HG := hide' hg
    clear hg HFS HCS w3
    by_cases hlt : e < nE
    · have hlt2 : decide ((e : Int) < nE) = true := by simp; omega
      have ex := fun c (hc : c < 11) => HR.out.1.all e c hlt hc
      obtain ⟨v0, y0⟩ := ex 0 (by omega)
      have y0 : wr.cell? ⟨gb, e * 11, none⟩ = some (.int .i64 v0) := y0
      obtain ⟨v1, y1⟩ := ex 1 (by omega)
      have y1 : wr.cell? ⟨gb, e * 11 + 1, none⟩ = some (.int .i64 v1) := y1
      have y2 := HR.out.1.mh.kind e hlt
      obtain ⟨v3, y3⟩ := ex 3 (by omega)
      have y3 : wr.cell? ⟨gb, e * 11 + 3, none⟩ = some (.int .i32 v3) := y3
      obtain ⟨v4, y4⟩ := ex 4 (by omega)
      have y4 : wr.cell? ⟨gb, e * 11 + 4, none⟩ = some (.int .i32 v4) := y4
      obtain ⟨v5, y5⟩ := ex 5 (by omega)
      have y5 : wr.cell? ⟨gb, e * 11 + 5, none⟩ = some (.int .i32 v5) := y5
      obtain ⟨v6, y6⟩ := ex 6 (by omega)
      have y6 : wr.cell? ⟨gb, e * 11 + 6, none⟩ = some (.int .i32 v6) := y6
      obtain ⟨v7, y7⟩ := ex 7 (by omega)
      have y7 : wr.cell? ⟨gb, e * 11 + 7, none⟩ = some (.int .i32 v7) := y7
      obtain ⟨v8, y8⟩ := ex 8 (by omega)
      have y8 : wr.cell? ⟨gb, e * 11 + 8, none⟩ = some (.int .i32 v8) := y8
      obtain ⟨v9, y9⟩ := ex 9 (by omega)
      have y9 : wr.cell? ⟨gb, e * 11 + 9, none⟩ = some (.int .i32 v9) := y9
      obtain ⟨v10, y10⟩ := ex 10 (by omega)
      have y10 : wr.cell? ⟨gb, e * 11 + 10, none⟩ = some (.int .i32 v10) := y10
      clear ex
      have f0 := HR.out.2.cell e (Nat.le_refl _)
      generalize hp : 4 * e = p at f0
      have HP := hide' hp
      have hp4 : p ≤ 256 := by omega
      have hfe : e < nE + 1 := by omega
      have hfe1 : e + 1 < nE + 1 := by omega
      have dp : decide ((2147483647 : Int) < (p : Int) + 4) = false := by simp; omega
      clear hp
      go_wp2_with fail
      generalize hw4 : wr.alloc _ = w4
      have hb4 : Below wr.heap.size wr w4 := by rw [← hw4]; exact Below.alloc (Below.refl _ _) (Nat.le_refl _) _
      have kk : w4.cell? ⟨wr.heap.size, 2, none⟩ = some (.int .u8 4) := by
        rw [← hw4]; simp only [World.cell?]; rw [heap_alloc_new]; rfl
      have HR4 := hide' (And.intro (HR.out.1.kept hb4 HR.out.1.hi) (HR.out.2.kept hb4 HR.out.2.lt))
      have f0 := HR4.out.2.cell e (Nat.le_refl _)
      rw [HP.out] at f0
      have hWS : Hid (w.heap.size ≤ wr.heap.size) := HR.out.1.bel.size
      generalize wr.heap.size = ws at *
      clear hw4 hb4 y0 y1 y2 y3 y4 y5 y6 y7 y8 y9 y10 HR
      go_quiet ((go_at_call 24; exact Calls.quiet_of_same (faces_calls _ B k (HR4.out.1.kn.kept ⟨rfl, rfl, rfl, Nat.le_refl _, fun _ _ => rfl⟩))))
      obtain ⟨vf, f1⟩ := Option.isSome_iff_exists.1 (HR4.out.2.ex (e + 1) (by omega))
      have ff := HR4.out.2.fz
      go_wp2_with fail
      go_roundg (nE - (e + 1))
      case measure => have := HG.out; omega
      case rel =>
        have hb5 : Below w4.heap.size w4 (w4.drewN nq) := ⟨rfl, rfl, rfl, Nat.le_refl _, fun _ _ => rfl⟩
        exact ⟨e + 1, by push_cast; rfl, by omega, rfl, HR4.out.1.kept (X := Gb + 1) ((hb5.mono (show Gb + 1 ≤ _ from HR4.out.1.hi)).setCell (p := ⟨fb, e + 1, none⟩) HGF.out _) (by omega), (HR4.out.2.kept hb5 HR4.out.2.lt).step hlt _ (by have := HP.out; push_cast; omega)⟩
    · obtain rfl : e = nE := by omega
      have hlt2 : decide ((e : Int) < e) = false := by simp
      have f1 := HR.out.2.cell e (Nat.le_refl _)
      rw [← hcap] at f1
      have c2 := HR.out.1.mh.c2
      have hmk := mk29 cap (by omega)
      have HCAP := hide' hcap
      clear hcap
      go_wp2_with fail
      obtain ⟨w5, hw5⟩ : ∃ w5, w5 = ((wr.alloc (Obj.cells (madeCells ZN (cap * 5)) 33)).alloc (Obj.cells #[Value.slice (some { block := fb, off := 0 }) (e + 1) (e + 1), Value.slice (some { block := wr.heap.size, off := 0 }) cap cap, Value.int IntKind.i64 0, Value.int IntKind.i64 0, Value.int IntKind.i64 0] 37)) := ⟨_, rfl⟩
      rw [← hw5]
      have H5 := hide' (Rs0 HR.out.1 HR.out.2 HGF.out w5 hw5)
      have g1 := H5.out.1.g1
      have g2 := H5.out.1.g2
      have f1 := H5.out.2.1.cell e (Nat.le_refl _)
      rw [← HCAP.out] at f1
      have c1 := H5.out.1.mh.c1
      have HSB := hide' HR.out.2.lt
      clear hw5 c2 hmk HR hlt hlt2
      generalize wr.heap.size = sb at *
      have hfe : (e : Int) < (e : Int) + 1 := by omega
      have hc256 : cap ≤ 256 := by have := HCAP.out; omega
      refine wp_region_still_tail 22 rfl (by kernel_rfl) ?_
      change wpStill _ _ w5.drew (fun a' => wpList _ _ _ _ a' w5.drew) _ _
      simp only [List.take_succ_cons, List.take_zero, List.drop_succ_cons, List.drop_zero]
      repeat still_step
      refine wpStill_nil ?_
      have hb6 : Below w5.heap.size w5 w5.drew := (Below.refl _ _).drew
      have HCALL := hide' (sortFaces_calls B Mb gb nb cE e N cap cn k c p1 p2 A E w5.drew (by have := H5.out.1.bel.size; have := H5.out.1.bB; show B ≤ w5.heap.size; omega) ((H5.out.1.kept hb6 H5.out.1.hi).kn) ((H5.out.1.kept hb6 H5.out.1.hi).mh) HCAP.out hE hN HP.out.1 HP.out.2.1 HP.out.2.2.1 HP.out.2.2.2)
      clear hb6
      go_wp2_with (go_at_call 26; refine HCALL.out.mono ?_; rintro e' w6 ⟨Eb, rfl, hre, hle, hb6⟩; have H6 := hide' (And.intro hre (And.intro hle hb6)); clear hre hle hb6)
      have HS := hide' (Rs.start H5.out HGF.out HSB.out H6.out)
      have HEb := hide' H6.out.1.lt
      obtain ⟨base, hbase⟩ : ∃ base, base = w6.heap.size := ⟨_, rfl⟩
      have HBASE := hide' hbase
      clear hbase HCALL H6 H5 g1 g2 f1 c1 hfe HP
      go_loopg [13, 14] cap (fun g s13 s14 wr => ∃ (i n cc : Nat) (q : Option Addr), s13 = .slice q n cc ∧ s14 = .int .i64 i ∧ i ≤ cap ∧ g = cap - i ∧ Hid (Ru w wr B Mb gb nb cE e N Gb fb sb Eb cap base i n cc q cn k E fin))
      case atStart => exact ⟨0, 0, 0, none, rfl, rfl, by omega, by omega, ⟨300, _, HRUN.out.1, HS.out⟩, ⟨[], rfl, .inl ⟨rfl, rfl⟩⟩, by rw [HBASE.out]; exact Nat.le_refl _, by rw [HBASE.out]; exact HEb.out⟩
      case round =>
        clear HS HBASE HEb
        obtain ⟨i, n, cc, q, rfl, rfl, hi, hg, HR⟩ := hrel
        have HG8 := hide' hg
        clear hg f1
        obtain ⟨wz, hwz⟩ : ∃ wz, wz = wr := ⟨_, rfl⟩
        subst hwz
        by_cases hlt : i < cap
        · have hlt2 : decide ((i : Int) < cap) = true := by simp; omega
          rename_i i0_K i1_gk i2_u2 i3_u3 i4_J i5_K i6_a i7_Q i8_a i9_K i10_a i11_K i12_a i13_J i14_K i15_a i16_a
          revert B Mb gb nb cE N cap cn k c p1 p2 A E fin w hN HFIN i0_K Gb fb i1_gk wr i2_u2 i3_u3 u8 u9 u10 u60 u61 u62 u63 u64 u65 u66 u67 u68 u69 u70 u71 u72 u73 u74 u75 u76 u77
            u78 u79 u80 u81 u82 u83 u84 i4_J i5_K i6_a e HGF hE HRUN i7_Q i8_a he HG HCAP i9_K i10_a w5 sb HSB hc256 w6 Eb i11_K i12_a base gk u2 u3 u6 u15 u16 u17 u18 u19 u20 u21
            u22 u23 u25 u26 u27 u28 u29 u30 u31 u32 u33 u120 u121 u122 u123 u124 u125 u126 u127 u128 u129 u130 u131 u132 u133 u134 u135 u136 u137 u138 u139 u140 u141 u142 u143 u144
            u145 u146 u147 u148 u149 u150 u151 u152 u153 u154 u155 u156 u157 u158 u159 u160 u161 u162 u163 u164 u165 u166 u167 u168 u169 u170 u171 u172 u173 u174 u175 u176 u177 u178
            u179 u180 u181 u182 u183 u184 u185 u186 u187 u188 u189 u190 u191 u192 u193 u194 u195 u196 u197 u198 u199 u200 u201 u202 u203 u204 u205 u206 u207 u208 u209 u210 u211 u212
            u213 u214 u215 u216 u217 u218 u219 u220 u221 u222 u223 u224 u225 u226 u227 u228 u229 u230 u231 u232 u233 u234 u235 u236 u237 u238 u239 u240 u241 u242 u243 u244 u245 u246
            u247 u248 u249 u250 u251 u252 u253 u254 u255 u256 u257 u258 u259 u260 u261 u262 u263 u264 u265 u266 u267 u268 u269 u270 u271 u272 u273 u274 u275 u276 u277 u278 u279 u280
            u281 u282 u283 u284 u285 u286 u287 u288 u289 u290 u291 u292 u293 u294 u295 u296 u297 u298 u299 u300 u301 u302 u303 u304 u305 u306 u307 u308 u309 u310 u311 u312 u313 u314
            u315 u316 u317 u318 u319 u320 u321 u322 u323 u324 u325 u326 u327 u328 u329 u330 u331 u332 u333 u334 u335 u336 u337 u338 u339 u340 u341 u342 u343 u344 u345 u346 u347 u348
            u349 u350 u351 u352 u353 u354 u355 i13_J i14_K i15_a i16_a i n cc q hi HG8 wz HR hlt hlt2
          exact hP.out
        · obtain rfl : i = cap := by omega
          have hlt2 : decide ((i : Int) < i) = false := by simp
          go_wp2_with fail
          go_ret2
          obtain ⟨fuel, st, h1, h2⟩ := HR.out.ex
          rw [List.drop_of_length_le (by rw [HRUN.out.2.1]; exact Nat.le_refl _)] at h1
          have h3 : st = fin := by cases fuel <;> simpa [Plain.runsF] using h1
          subst h3
          exact ⟨Gb, fb, sb, Eb, rfl, h2⟩)

end Go.Proofs.YbulkcgjqFmt
