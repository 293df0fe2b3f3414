import Derived.Test.YbulkcgjqFmtConE
namespace Go.Proofs.YbulkcgjqFmt
set_option linter.unusedSimpArgs false
set_option linter.unusedVariables false
open Go.ChangeShapes Go.WideShapes Go.ChangeAt Go.RowKit Go.Sort

set_option maxRecDepth 20000 in
set_option maxHeartbeats 0 in
def conH : { P : Prop // Hid P → conE.1 } := Subtype.mk _ (by
  intro hP
  delta conE
  intro B
  set_option tactic.hygienic false in intros
  obtain ⟨x', hx'⟩ : ∃ x', x' = E.getD (i + 1) En.z := ⟨_, rfl⟩
  have hE0 : ∀ c, c < 6 → w4.cell? ⟨Eb, i * 6 + 6 + c, none⟩ = (enc x')[c]? := fun c hc => by
    rw [show i * 6 + 6 + c = (i + 1) * 6 + c from by omega, hx']
    exact H4.out.rs.re.cell (i + 1) c (by rw [HRUN.out.2.1]; omega) hc
  have x0 : w4.cell? ⟨Eb, i * 6 + 6, none⟩ = some (.int .i32 (x'.k0 : Nat)) := hE0 0 (by omega)
  have x1 : w4.cell? ⟨Eb, i * 6 + 6 + 1, none⟩ = some (.int .i32 (x'.k1 : Nat)) := hE0 1 (by omega)
  have x2 : w4.cell? ⟨Eb, i * 6 + 6 + 2, none⟩ = some (.int .i32 (-1)) := hE0 2 (by omega)
  have x3 : w4.cell? ⟨Eb, i * 6 + 6 + 3, none⟩ = some (.int .i32 (-1)) := hE0 3 (by omega)
  have x4 : w4.cell? ⟨Eb, i * 6 + 6 + 4, none⟩ = some (.int .i32 (x'.e : Nat)) := hE0 4 (by omega)
  have x5 : w4.cell? ⟨Eb, i * 6 + 6 + 5, none⟩ = some (.int .i32 (x'.f : Nat)) := hE0 5 (by omega)
  have hex : x'.e < e ∧ x'.f < 4 := by rw [hx']; exact HRUN.out.2.2 (i + 1) (by omega)
  have HXE' := hide' hx'
  have HXB' := hide' hex
  clear hx' hE0 hex
  have HE1 := hide' (Ec.mk (w := w4) (a := ay) (x := x) (fun c hc => by rcases c with _ | _ | _ | _ | _ | _ | c <;> first | assumption | omega) (by have := HS4.out; omega))
  clear z0 z1 z2 z3 z4 z5
  go_upto_region 49 with fail
  obtain ⟨w7, hw7⟩ : ∃ w7, w7 = w4.alloc (Obj.cells #[.int .i32 (x'.k0 : Nat), .int .i32 (x'.k1 : Nat), .int .i32 (-1), .int .i32 (-1), .int .i32 (x'.e : Nat), .int .i32 (x'.f : Nat)] 117) := ⟨_, rfl⟩
  rw [← hw7]
  have hb7 : Below w4.heap.size w4 w7 := by rw [hw7]; exact Below.alloc (Below.refl _ _) (Nat.le_refl _) _
  have HF1 := hide' (HE1.out.kept hb7)
  have HF2 : Hid (Ec w7 w4.heap.size x') := by rw [hw7]; exact Ec.new w4 x'
  have H7 := hide' (H4.out.kept hb7)
  clear hw7 hb7 hpt H4 HE1 x0 x1 x2 x3 x4 x5
  obtain ⟨a7, ha7⟩ : ∃ a7, a7 = w4.heap.size := ⟨_, rfl⟩
  rw [← ha7] at HS4 HF2 ⊢
  clear ha7 w4
  have z4 : w7.cell? ⟨ay, 4, none⟩ = some (.int .i32 (x.e : Nat)) := HF1.out.cell 4 (by omega)
  have t4 : w7.cell? ⟨a7, 4, none⟩ = some (.int .i32 (x'.e : Nat)) := HF2.out.cell 4 (by omega)
  have g1 := H7.out.rs.cc.g1
  have hxe : x.e < e := HXB.out.1
  have hxe' : x'.e < e := HXB'.out.1
  go_quiet (fail)
  obtain ⟨w8, hw8⟩ : ∃ w8, w8 = w7.drewN nq := ⟨_, rfl⟩
  rw [← hw8]
  have hb8 : Below w7.heap.size w7 w8 := by rw [hw8]; exact ⟨rfl, rfl, rfl, Nat.le_refl _, fun _ _ => rfl⟩
  have HF1 := hide' (HF1.out.kept hb8)
  have HF2 := hide' (HF2.out.kept hb8)
  have H8 := hide' (H7.out.kept hb8)
  clear hw8 hb8 H7 z4 t4 g1
  have z5 : w8.cell? ⟨ay, 5, none⟩ = some (.int .i32 (x.f : Nat)) := HF1.out.cell 5 (by omega)
  have t5 : w8.cell? ⟨a7, 5, none⟩ = some (.int .i32 (x'.f : Nat)) := HF2.out.cell 5 (by omega)
  have HTW := hide' (HK.out.1.two HS2.out)
  have hxi : E.getD i En.z = x := by rw [HXE.out, HM0.out]; rfl
  rw [hxi, ← HXE'.out] at HTW
  clear hxi
  have HC := hide' (H8.out.orient x.e x'.e x.f x'.f hxe hxe' HXB.out.2 HXB'.out.2 HTW.out.1.2.2.2.2.1 HTW.out.1.2.2.2.2.2.1 HTW.out.1.2.2.2.2.2.2)
  go_upto_region 51 with (go_at_call 29; refine HC.out.mono ?_; rintro e' w9 ⟨rfl, hb9⟩; have HB9 := hide' hb9; clear hb9)
  have HF1 := hide' (HF1.out.kept HB9.out)
  have HF2 := hide' (HF2.out.kept HB9.out)
  have H9 := hide' (H8.out.kept HB9.out)
  clear HB9 H8 z5 t5 HC
  have z5 : w9.cell? ⟨ay, 5, none⟩ = some (.int .i32 (x.f : Nat)) := HF1.out.cell 5 (by omega)
  have t5 : w9.cell? ⟨a7, 5, none⟩ = some (.int .i32 (x'.f : Nat)) := HF2.out.cell 5 (by omega)
  have HC := hide' (H9.out.orient x'.e x.e x'.f x.f hxe' hxe HXB'.out.2 HXB.out.2 HTW.out.1.2.2.2.2.2.1.symm HTW.out.1.2.2.2.2.1.symm HTW.out.1.2.2.2.2.2.2.symm)
  go_upto_region 54 with (go_at_call 29; refine HC.out.mono ?_; rintro e' w10 ⟨rfl, hb10⟩; have HB10 := hide' hb10; clear hb10)
  have HF1 := hide' (HF1.out.kept HB10.out)
  have HF2 := hide' (HF2.out.kept HB10.out)
  have H10 := hide' (H9.out.kept HB10.out)
  clear HB10 H9 z5 t5 HC
  have z0 : w10.cell? ⟨ay, 0, none⟩ = some (.int .i32 (x.k0 : Nat)) := HF1.out.cell 0 (by omega)
  have z1 : w10.cell? ⟨ay, 1, none⟩ = some (.int .i32 (x.k1 : Nat)) := HF1.out.cell 1 (by omega)
  have z2 : w10.cell? ⟨ay, 2, none⟩ = some (.int .i32 (-1)) := HF1.out.cell 2 (by omega)
  have z3 : w10.cell? ⟨ay, 3, none⟩ = some (.int .i32 (-1)) := HF1.out.cell 3 (by omega)
  have z4 : w10.cell? ⟨ay, 4, none⟩ = some (.int .i32 (x.e : Nat)) := HF1.out.cell 4 (by omega)
  have z5 : w10.cell? ⟨ay, 5, none⟩ = some (.int .i32 (x.f : Nat)) := HF1.out.cell 5 (by omega)
  have t0 : w10.cell? ⟨a7, 0, none⟩ = some (.int .i32 (x'.k0 : Nat)) := HF2.out.cell 0 (by omega)
  have t1 : w10.cell? ⟨a7, 1, none⟩ = some (.int .i32 (x'.k1 : Nat)) := HF2.out.cell 1 (by omega)
  have t2 : w10.cell? ⟨a7, 2, none⟩ = some (.int .i32 (-1)) := HF2.out.cell 2 (by omega)
  have t3 : w10.cell? ⟨a7, 3, none⟩ = some (.int .i32 (-1)) := HF2.out.cell 3 (by omega)
  have t4 : w10.cell? ⟨a7, 4, none⟩ = some (.int .i32 (x'.e : Nat)) := HF2.out.cell 4 (by omega)
  have t5 : w10.cell? ⟨a7, 5, none⟩ = some (.int .i32 (x'.f : Nat)) := HF2.out.cell 5 (by omega)
  have HC := hide' (H10.out.rel x x')
  go_upto_region 55 with (go_at_call 28; refine HC.out.mono ?_; rintro e' w11 ⟨rfl, hb11⟩; have HB11 := hide' hb11; clear hb11)
  have HF1 := hide' (HF1.out.kept HB11.out)
  have HF2 := hide' (HF2.out.kept HB11.out)
  have H11 := hide' (H10.out.kept HB11.out)
  clear HB11 H10 z0 z1 z2 z3 z4 z5 t0 t1 t2 t3 t4 t5 HC
  have z4 : w11.cell? ⟨ay, 4, none⟩ = some (.int .i32 (x.e : Nat)) := HF1.out.cell 4 (by omega)
  have z5 : w11.cell? ⟨ay, 5, none⟩ = some (.int .i32 (x.f : Nat)) := HF1.out.cell 5 (by omega)
  have t4 : w11.cell? ⟨a7, 4, none⟩ = some (.int .i32 (x'.e : Nat)) := HF2.out.cell 4 (by omega)
  have t5 : w11.cell? ⟨a7, 5, none⟩ = some (.int .i32 (x'.f : Nat)) := HF2.out.cell 5 (by omega)
  have f0 := H11.out.rs.ft.cell x.e (by have := HXB.out; omega)
  obtain ⟨p, hp⟩ : ∃ p, p = 4 * x.e := ⟨_, rfl⟩
  rw [← hp] at f0
  have HP := hide' hp
  clear hp
  obtain ⟨y, hy⟩ : ∃ y, y = p + x.f := ⟨_, rfl⟩
  have hyc : y < cap := by have := HP.out; have := HXB.out; have := HCAP.out; omega
  have hpe : (x.e : Int) < (e : Int) + 1 := by have := HXB.out; omega
  have hwr : IntKind.i32.wrap ((p : Int) + (x.f : Int)) = (y : Int) := by rw [wraps_i32 _ (by omega) (by omega)]; omega
  have HY := hide' hy
  clear hy
  have c1 := H11.out.rs.c1
  have rz := H11.out.rs.rs.fz
  have hxx := H11.out.rs.rs.ex y (by rw [H11.out.rs.len]; exact hyc)
  obtain ⟨v0, e0⟩ := hxx 0 (by omega)
  have e0 : w11.cell? ⟨sb, y * 5, none⟩ = some v0 := e0
  obtain ⟨v1, e1⟩ := hxx 1 (by omega)
  obtain ⟨v2, e2⟩ := hxx 2 (by omega)
  obtain ⟨v3, e3⟩ := hxx 3 (by omega)
  obtain ⟨v4, e4⟩ := hxx 4 (by omega)
  clear hxx
  refine wp_region_still_tail 20 rfl (by kernel_rfl) ?_
  change wpStill _ _ w11.drew (fun a' => wpList _ _ _ _ a' w11.drew) _ _
  simp only [List.take_succ_cons, List.take_zero, List.drop_succ_cons, List.drop_zero]
  repeat still_step
  refine wpStill_nil ?_
  go_upto_region 56 with fail
  obtain ⟨w12, hw12⟩ : ∃ w12, w12 = (((((w11.setCell ⟨sb, y * 5, none⟩ (.int .i32 (x'.e : Nat))).setCell ⟨sb, y * 5 + 1, none⟩ (.int .i32 (x'.f : Nat))).setCell ⟨sb, y * 5 + 2, none⟩ (.int .u8 1)).setCell ⟨sb, y * 5 + 3, none⟩ (.bool false)).setCell ⟨sb, y * 5 + 4, none⟩ (.int .i64 0)).drew := ⟨_, rfl⟩
  rw [← hw12]
  have hbs : sb < Eb := by have := H11.out.rs.se; omega
  have HF1 : Hid (Ec w12 ay x) := by rw [hw12]; exact (HF1.out.put ((x'.e : Int), (x'.f : Int), 1) (by have := HAY.out; omega)).kept ((Below.refl _ _).drew)
  have HF2 : Hid (Ec w12 a7 x') := by rw [hw12]; exact (HF2.out.put ((x'.e : Int), (x'.f : Int), 1) (by have := HAY.out; have := HS4.out; omega)).kept ((Below.refl _ _).drew)
  have H12 : Hid (Rq w w12 B Mb gb nb cE e N Gb fb sb Eb cap base g2 c2 s cn k E { st' with sides := st'.sides.set y ((x'.e : Int), (x'.f : Int), 1) }) := by rw [hw12]; exact (H11.out.put y hyc ((x'.e : Int), (x'.f : Int), 1)).kept ((Below.refl _ _).drew)
  clear hw12 hbs H11 z4 z5 t4 t5 f0 c1 rz e0 e1 e2 e3 e4 hwr hpe
  rename_i l0_HF1 l1_HF2 l2_HF1 l3_HF2 l4_HF1 l5_HF2 l6_HF1 l7_HF2 l8_HF1 l9_HF2 l10_K l11_a
  revert B Mb gb nb cE N cap cn k c p1 p2 A E fin w hN HFIN i0_K Gb fb i1_gk j0_wr i2_u2 i3_u3 u8 u9 u10 u60 u61 u62 u63 u64 u65 u66 u67 u68 u69 u70 u71 u72 u73 u74 u75 u76 u77 u78
    u79 u80 u81 u82 u83 u84 i4_J i5_K i6_a e HGF hE HRUN i7_Q i8_a he HG HCAP i9_K i10_a w5 sb HSB hc256 w6 Eb i11_K i12_a base j1_gk j2_u2 j3_u3 u6 u15 u16 u17 u18 u19 j4_u20
    j5_u21 j6_u22 j7_u23 j8_u25 j9_u26 j10_u27 j11_u28 j12_u29 j13_u30 j14_u31 j15_u32 j16_u33 u120 u121 u122 u123 u124 u125 j17_u126 j18_u127 j19_u128 j20_u129 j21_u130 j22_u131
    j23_u132 j24_u133 j25_u134 j26_u135 j27_u136 j28_u137 j29_u138 j30_u139 j31_u140 j32_u141 j33_u142 j34_u143 j35_u144 j36_u145 j37_u146 j38_u147 j39_u148 j40_u149 j41_u150
    j42_u151 j43_u152 j44_u153 j45_u154 j46_u155 j47_u156 j48_u157 j49_u158 j50_u159 j51_u160 j52_u161 j53_u162 j54_u163 j55_u164 j56_u165 j57_u166 j58_u167 j59_u168 j60_u169
    j61_u170 j62_u171 j63_u172 j64_u173 j65_u174 j66_u175 j67_u176 j68_u177 j69_u178 u179 u180 u181 u182 u183 j70_u184 j71_u185 j72_u186 j73_u187 j74_u188 j75_u189 j76_u190 j77_u191
    j78_u192 j79_u193 j80_u194 j81_u195 j82_u196 j83_u197 j84_u198 j85_u199 j86_u200 j87_u201 j88_u202 j89_u203 j90_u204 j91_u205 j92_u206 j93_u207 j94_u208 j95_u209 j96_u210
    j97_u211 j98_u212 j99_u213 j100_u214 j101_u215 j102_u216 j103_u217 j104_u218 j105_u219 j106_u220 j107_u221 j108_u222 j109_u223 j110_u224 j111_u225 j112_u226 j113_u227 j114_u228
    j115_u229 j116_u230 j117_u231 j118_u232 j119_u233 j120_u234 j121_u235 j122_u236 j123_u237 j124_u238 j125_u239 j126_u240 j127_u241 j128_u242 j129_u243 j130_u244 j131_u245
    j132_u246 j133_u247 j134_u248 j135_u249 j136_u250 j137_u251 j138_u252 j139_u253 j140_u254 j141_u255 j142_u256 j143_u257 j144_u258 j145_u259 j146_u260 j147_u261 j148_u262
    j149_u263 j150_u264 j151_u265 j152_u266 j153_u267 j154_u268 j155_u269 j156_u270 j157_u271 j158_u272 j159_u273 j160_u274 j161_u275 j162_u276 j163_u277 j164_u278 j165_u279
    j166_u280 j167_u281 j168_u282 j169_u283 j170_u284 j171_u285 j172_u286 j173_u287 j174_u288 j175_u289 j176_u290 j177_u291 j178_u292 j179_u293 j180_u294 j181_u295 j182_u296
    j183_u297 j184_u298 j185_u299 j186_u300 j187_u301 j188_u302 j189_u303 j190_u304 j191_u305 j192_u306 j193_u307 j194_u308 j195_u309 j196_u310 j197_u311 j198_u312 j199_u313
    j200_u314 j201_u315 j202_u316 j203_u317 j204_u318 j205_u319 j206_u320 j207_u321 j208_u322 j209_u323 j210_u324 j211_u325 j212_u326 j213_u327 j214_u328 j215_u329 j216_u330
    j217_u331 j218_u332 j219_u333 j220_u334 j221_u335 j222_u336 j223_u337 j224_u338 j225_u339 j226_u340 j227_u341 j228_u342 j229_u343 j230_u344 j231_u345 j232_u346 j233_u347
    j234_u348 j235_u349 j236_u350 j237_u351 j238_u352 j239_u353 j240_u354 j241_u355 i13_J i14_K i15_a i16_a i n cc q hi HG8 wz hlt hlt2 fuel st j242_K j243_gk j244_wr j245_u126
    j246_u127 j247_u128 j248_u129 j249_u130 j250_u131 j251_u132 j252_u133 j253_u134 j254_u135 j255_u136 j256_u137 j257_u138 j258_u139 j259_u140 j260_u141 j261_u142 j262_u143
    j263_u144 j264_J j265_K j266_a j j267_HQ j268_K j269_a j270_wc j271_u126 j272_u127 j273_u128 j274_u129 j275_u130 j276_u131 j277_u132 j278_u133 j279_u134 j280_u135 j281_u136
    j282_u137 j283_u138 j284_u139 j285_u140 j286_u141 j287_u143 j288_u144 hjcap j289_K j290_gk wr j291_u150 j292_u151 j293_u152 j294_u153 j295_u154 j296_u155 j297_u156 j298_u157
    j299_u158 j300_u159 j301_u160 j302_u161 j303_u162 j304_u163 j305_J j306_K j307_a s j308_HQ HK hkle hk1 j309_a HJ j310_h j311_a hs HG7 hsk ds j312_K j313_a j314_wc j315_u126
    j316_u127 j317_u128 j318_u129 j319_u130 j320_u131 j321_u132 j322_u133 j323_u134 j324_u135 j325_u136 j326_u137 j327_u138 j328_u139 j329_u140 j330_u141 j331_u142 j332_u143
    j333_u144 j334_u145 j335_u146 j336_u147 j337_u148 j338_u149 j339_u150 j340_u151 j341_u152 j342_u153 j343_u154 j344_u155 j345_u156 j346_u157 j347_u158 j348_u159 j349_u160
    j350_u161 j351_u162 j352_u163 j353_u164 j354_u165 j355_u166 j356_u167 j357_u168 j358_u169 j359_u170 p0 c0 HQ wc u126 u127 u128 u129 u130 u131 u132 u133 u134 u135 u136 u137 u138
    u139 u140 u141 u142 u143 u144 u145 u146 u147 u148 u149 u150 u151 u152 u153 u154 u155 u156 u157 u158 u159 u160 u161 u162 u163 u164 u165 u166 u167 u168 u169 u170 u171 u172 u173
    u174 u175 u176 u177 u178 g2 c2 gk u2 u3 u20 u21 u22 u23 u25 u26 u27 u28 u29 u30 u31 u32 u33 u184 u185 u186 u187 u188 u189 u190 u191 u192 u193 u194 u195 u196 u197 u198 u199 u200
    u201 u202 u203 u204 u205 u206 u207 u208 u209 u210 u211 u212 u213 u214 u215 u216 u217 u218 u219 u220 u221 u222 u223 u224 u225 u226 u227 u228 u229 u230 u231 u232 u233 u234 u235
    u236 u237 u238 u239 u240 u241 u242 u243 u244 u245 u246 u247 u248 u249 u250 u251 u252 u253 u254 u255 u256 u257 u258 u259 u260 u261 u262 u263 u264 u265 u266 u267 u268 u269 u270
    u271 u272 u273 u274 u275 u276 u277 u278 u279 u280 u281 u282 u283 u284 u285 u286 u287 u288 u289 u290 u291 u292 u293 u294 u295 u296 u297 u298 u299 u300 u301 u302 u303 u304 u305
    u306 u307 u308 u309 u310 u311 u312 u313 u314 u315 u316 u317 u318 u319 u320 u321 u322 u323 u324 u325 u326 u327 u328 u329 u330 u331 u332 u333 u334 u335 u336 u337 u338 u339 u340
    u341 u342 u343 u344 u345 u346 u347 u348 u349 u350 u351 u352 u353 u354 u355 j360_J j361_K j362_a j363_a m hm wy HG9 hms dm st' H2 x HXE k0_K k1_a HXB ay HAY HS2 HM0 dm1 h1s x'
    HXE' HXB' w7 l0_HF1 a7 l1_HF2 HS4 hxe hxe' nq w8 l2_HF1 l3_HF2 HTW w9 l4_HF1 l5_HF2 w10 l6_HF1 l7_HF2 w11 l8_HF1 l9_HF2 p HP y hyc HY v0 e0 v1 v2 v3 v4 l10_K l11_a w12 HF1 HF2
    H12
  exact hP.out
  )
end Go.Proofs.YbulkcgjqFmt
