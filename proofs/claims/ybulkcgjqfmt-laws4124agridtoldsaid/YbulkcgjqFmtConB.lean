import Derived.Test.YbulkcgjqFmtKit18
namespace Go.Proofs.YbulkcgjqFmt
set_option linter.unusedSimpArgs false
set_option linter.unusedVariables false
open Go.ChangeShapes Go.WideShapes Go.ChangeAt Go.RowKit Go.Sort

set_option maxRecDepth 20000 in
set_option maxHeartbeats 0 in
def conB : { P : Prop // Hid P → conA.1 } := Subtype.mk _ (by
  intro hP
  delta conA
  intro B
  set_option tactic.hygienic false in intros
  obtain ⟨fuel, st, hrf, hrs⟩ := HR.out.ex
  obtain ⟨kk, hkk⟩ := Plain.round_kk cn fuel E i st fin hrf (by rw [HRUN.out.2.1]; exact hlt)
  have HK := hide' (And.intro hkk hrs)
  have hkle : i + kk ≤ cap := by have := hkk.le; have := HRUN.out.2.1; omega
  have hk1 : 1 ≤ kk := by have := hkk.hk; omega
  clear hrf hrs hkk
  go_wp2_with fail
  go_loopg [15] (kk - 1) (fun g s15 wq => ∃ j : Nat, s15 = .int .i64 j ∧ i + 1 ≤ j ∧ j ≤ i + kk ∧ g = i + kk - j ∧ Hid (Ro w wq B Mb gb nb cE e N Gb fb sb Eb cap base n cc q cn k E st))
  case atStart => exact ⟨i + 1, by push_cast; rfl, by omega, by omega, by omega, HK.out.2, HR.out.own, HR.out.hb, HR.out.hE⟩
  case round =>
    obtain ⟨j, rfl, hj1, hj2, hg, HQ⟩ := hrel
    have HG5 := hide' hg
    clear hg HR
    go_upto_region 22 with fail
    go_cut [142] from 126 to 144 (fun s142 wx => s142 = .bool (decide (j < i + kk)) ∧ Hid (Ro w wx B Mb gb nb cE e N Gb fb sb Eb cap base n cc q cn k E st))
    case first =>
      have RE' := HQ.out.rs.re
      by_cases hjc : j < cap
      · have dj : decide ((j : Int) < cap) = true := by simp; omega
        have djn : j < cap := hjc
        have x0 : wr.cell? ⟨Eb, i * 6, none⟩ = some (.int .i32 ((E.getD i En.z).k0 : Nat)) := RE'.cell i 0 (by rw [HRUN.out.2.1]; exact hlt) (by omega)
        have x1 : wr.cell? ⟨Eb, i * 6 + 1, none⟩ = some (.int .i32 ((E.getD i En.z).k1 : Nat)) := RE'.cell i 1 (by rw [HRUN.out.2.1]; exact hlt) (by omega)
        have x2 : wr.cell? ⟨Eb, i * 6 + 2, none⟩ = some (.int .i32 (-1)) := RE'.cell i 2 (by rw [HRUN.out.2.1]; exact hlt) (by omega)
        have x3 : wr.cell? ⟨Eb, i * 6 + 3, none⟩ = some (.int .i32 (-1)) := RE'.cell i 3 (by rw [HRUN.out.2.1]; exact hlt) (by omega)
        have y0 : wr.cell? ⟨Eb, j * 6, none⟩ = some (.int .i32 ((E.getD j En.z).k0 : Nat)) := RE'.cell j 0 (by rw [HRUN.out.2.1]; exact hjc) (by omega)
        have y1 : wr.cell? ⟨Eb, j * 6 + 1, none⟩ = some (.int .i32 ((E.getD j En.z).k1 : Nat)) := RE'.cell j 1 (by rw [HRUN.out.2.1]; exact hjc) (by omega)
        have y2 : wr.cell? ⟨Eb, j * 6 + 2, none⟩ = some (.int .i32 (-1)) := RE'.cell j 2 (by rw [HRUN.out.2.1]; exact hjc) (by omega)
        have y3 : wr.cell? ⟨Eb, j * 6 + 3, none⟩ = some (.int .i32 (-1)) := RE'.cell j 3 (by rw [HRUN.out.2.1]; exact hjc) (by omega)
        have heq := eql115
        clear RE'
        go_quiet (fail)
        go_wp2_with fail
        go_meet
        refine ⟨?_, HQ.out.drewN _⟩
        by_cases hjk : j < i + kk
        · have h9 := HK.out.1.same j (by omega) hjk
          simp only [List.getD_eq_getElem?_getD] at h9
          simp [h9.1, h9.2, hjk]
        · have hj : j = i + kk := by omega
          have h9 := HK.out.1.diff (by rw [HRUN.out.2.1]; omega)
          rw [← hj] at h9
          simp only [List.getD_eq_getElem?_getD] at h9
          rw [show decide (j < i + kk) = false from by simp; omega]
          congr 1
          rw [Bool.and_eq_false_iff]
          by_cases h10 : (E[j]?.getD En.z).k0 = (E[i]?.getD En.z).k0
          · right; simp; exact fun h11 => h9 ⟨h10, h11⟩
          · left; simp; exact h10
      · obtain rfl : j = cap := by omega
        have dj : decide ((j : Int) < j) = false := by simp
        go_quiet (fail)
        go_wp2_with fail
        go_meet
        exact ⟨by simp; omega, HQ.out.drewN _⟩
    case rest =>
      obtain ⟨rfl, HQ2⟩ := hcut
      by_cases hjk : j < i + kk
      · have dj : decide (j < i + kk) = true := by simp; omega
        go_wp2_with fail
        go_roundg (i + kk - (j + 1))
        case measure => have := HG5.out; omega
        case rel => exact ⟨j + 1, by push_cast; rfl, by omega, by omega, rfl, HQ2.out⟩
      · have hjj : j = i + kk := by omega
        have dj : decide (j < i + kk) = false := by simp; omega
        have hjcap : j ≤ cap := by omega
        have HJ := hide' hjj
        clear hjj
        go_wp2_with fail
        rw [show j - i = kk from by have := HJ.out; omega]
        have HQ := HQ2
        clear HQ2 HG5 hj1 hj2 hjk dj
        go_loopg [17] kk (fun g s17 wq => ∃ s : Nat, s17 = .int .i64 s ∧ s ≤ kk ∧ g = kk - s ∧ Hid (Ro w wq B Mb gb nb cE e N Gb fb sb Eb cap base n cc q cn k E st))
        case atStart => exact ⟨0, rfl, by omega, by omega, HQ.out⟩
        case round =>
          clear HQ
          obtain ⟨s, rfl, hs, hg, HQ⟩ := hrel
          have HG7 := hide' hg
          clear hg
          by_cases hsk : s < kk
          · have ds : decide ((s : Int) < kk) = true := by simp; omega
            have x5 : wr.cell? ⟨Eb, i * 6 + s * 6 + 5, none⟩ = some (.int .i32 ((E.getD (i + s) En.z).f : Nat)) := by
              rw [show i * 6 + s * 6 + 5 = (i + s) * 6 + 5 from by omega]
              exact HQ.out.rs.re.cell (i + s) 5 (by rw [HRUN.out.2.1]; omega) (by omega)
            have d0 : decide ((((E.getD (i + s) En.z).f : Nat) : Int) ≥ 0) = true := by simp
            go_wp2_with fail
            go_roundg (kk - (s + 1))
            case measure => have := HG7.out; omega
            case rel => exact ⟨s + 1, by push_cast; rfl, by omega, rfl, HQ.out⟩
          · obtain rfl : s = kk := by omega
            have ds : decide ((s : Int) < s) = false := by simp
            go_wp2_with fail
            go_cut [16, 18, 19] from 126 to 170 (fun s16 s18 s19 wx => s16 = .slice (some ⟨Eb, i * 6, none⟩) s (cap - i) ∧ s18 = .slice (some ⟨Eb, i * 6, none⟩) s (cap - i) ∧ (∃ p c0, s19 = .slice p 0 c0) ∧ Hid (Ro w wx B Mb gb nb cE e N Gb fb sb Eb cap base n cc q cn k E st))
            case first =>
              go_quiet (fail)
              go_wp2_with fail
              · go_meet
                exact ⟨by simp [*], by simp [*], ⟨_, _, rfl⟩, HQ.out.drewN _⟩
              · go_meet
                exact ⟨rfl, rfl, ⟨_, _, rfl⟩, HQ.out.drewN _⟩
            case rest =>
              obtain ⟨rfl, rfl, ⟨p0, c0, rfl⟩, HQ2⟩ := hcut
              have HQ := HQ2
              clear HQ2
              go_upto_region 30 with fail
              go_cut [6, 13] from 126 to 178 (fun s6 s13 wx => s6 = .nilIface ∧ ∃ g2 c2, s13 = .slice (some ⟨g2, 0, none⟩) s c2 ∧ Hid (Rq w wx B Mb gb nb cE e N Gb fb sb Eb cap base g2 c2 s cn k E st))
              case first =>
                have ho := HQ.out
                obtain ⟨xs, hxs⟩ := ho.own
                have HC := hide' (pair_calls Gb base cc s (cap - i) q (some ⟨Eb, i * 6, none⟩) wc HK.out.1.hk ho.rs.cc.g3 (owns_cut hxs) ho.hb)
                have hq := ho.addr
                clear ho hxs
                rcases hq with ⟨rfl, rfl, rfl⟩ | ⟨gq, rfl⟩
                · go_wp2_with (go_at_call 27; refine HC.out.mono ?_; rintro e' w2 ⟨g2, c2, rfl, hown2, hbel2⟩; have HX := hide' (And.intro hown2 hbel2); clear hown2 hbel2)
                  go_meet
                  exact ⟨rfl, g2, c2, rfl, HQ.out.toRq HX.out.1 HX.out.2⟩
                · go_wp2_with (go_at_call 27; refine HC.out.mono ?_; rintro e' w2 ⟨g2, c2, rfl, hown2, hbel2⟩; have HX := hide' (And.intro hown2 hbel2); clear hown2 hbel2)
                  go_meet
                  exact ⟨rfl, g2, c2, rfl, HQ.out.toRq HX.out.1 HX.out.2⟩
              case rest =>
                obtain ⟨rfl, g2, c2, rfl, HQ2⟩ := hcut
                have HQ := HQ2
                clear HQ2
                go_wp2_with fail
                go_loopg [183] s (fun g s183 wq => ∃ m : Nat, s183 = .int .i64 m ∧ m ≤ s ∧ g = s - m ∧ Hid (∃ st', Rq w wq B Mb gb nb cE e N Gb fb sb Eb cap base g2 c2 s cn k E st' ∧ (m = 0 → st' = st) ∧ (0 < m → ∃ f2, Plain.runsF cn f2 (E.drop j) st' = some fin)))
                case atStart => exact ⟨0, rfl, by omega, by omega, st, HQ.out, fun _ => rfl, fun h => by omega⟩
                case round =>
                  clear HQ
                  obtain ⟨m, rfl, hm, hg, HQ9⟩ := hrel
                  obtain ⟨wy, hwy⟩ : ∃ wy, wy = wr := ⟨_, rfl⟩
                  subst hwy
                  have HG9 := hide' hg
                  clear hg
                  by_cases hms : m < s
                  · rename_i j0_wr j1_gk j2_u2 j3_u3 j4_u20 j5_u21 j6_u22 j7_u23 j8_u25 j9_u26 j10_u27 j11_u28 j12_u29 j13_u30 j14_u31 j15_u32 j16_u33 j17_u126 j18_u127 j19_u128
                      j20_u129 j21_u130 j22_u131 j23_u132 j24_u133 j25_u134 j26_u135 j27_u136 j28_u137 j29_u138 j30_u139 j31_u140 j32_u141 j33_u142 j34_u143 j35_u144 j36_u145
                      j37_u146 j38_u147 j39_u148 j40_u149 j41_u150 j42_u151 j43_u152 j44_u153 j45_u154 j46_u155 j47_u156 j48_u157 j49_u158 j50_u159 j51_u160 j52_u161 j53_u162
                      j54_u163 j55_u164 j56_u165 j57_u166 j58_u167 j59_u168 j60_u169 j61_u170 j62_u171 j63_u172 j64_u173 j65_u174 j66_u175 j67_u176 j68_u177 j69_u178 j70_u184
                      j71_u185 j72_u186 j73_u187 j74_u188 j75_u189 j76_u190 j77_u191 j78_u192 j79_u193 j80_u194 j81_u195 j82_u196 j83_u197 j84_u198 j85_u199 j86_u200 j87_u201
                      j88_u202 j89_u203 j90_u204 j91_u205 j92_u206 j93_u207 j94_u208 j95_u209 j96_u210 j97_u211 j98_u212 j99_u213 j100_u214 j101_u215 j102_u216 j103_u217 j104_u218
                      j105_u219 j106_u220 j107_u221 j108_u222 j109_u223 j110_u224 j111_u225 j112_u226 j113_u227 j114_u228 j115_u229 j116_u230 j117_u231 j118_u232 j119_u233 j120_u234
                      j121_u235 j122_u236 j123_u237 j124_u238 j125_u239 j126_u240 j127_u241 j128_u242 j129_u243 j130_u244 j131_u245 j132_u246 j133_u247 j134_u248 j135_u249 j136_u250
                      j137_u251 j138_u252 j139_u253 j140_u254 j141_u255 j142_u256 j143_u257 j144_u258 j145_u259 j146_u260 j147_u261 j148_u262 j149_u263 j150_u264 j151_u265 j152_u266
                      j153_u267 j154_u268 j155_u269 j156_u270 j157_u271 j158_u272 j159_u273 j160_u274 j161_u275 j162_u276 j163_u277 j164_u278 j165_u279 j166_u280 j167_u281 j168_u282
                      j169_u283 j170_u284 j171_u285 j172_u286 j173_u287 j174_u288 j175_u289 j176_u290 j177_u291 j178_u292 j179_u293 j180_u294 j181_u295 j182_u296 j183_u297 j184_u298
                      j185_u299 j186_u300 j187_u301 j188_u302 j189_u303 j190_u304 j191_u305 j192_u306 j193_u307 j194_u308 j195_u309 j196_u310 j197_u311 j198_u312 j199_u313 j200_u314
                      j201_u315 j202_u316 j203_u317 j204_u318 j205_u319 j206_u320 j207_u321 j208_u322 j209_u323 j210_u324 j211_u325 j212_u326 j213_u327 j214_u328 j215_u329 j216_u330
                      j217_u331 j218_u332 j219_u333 j220_u334 j221_u335 j222_u336 j223_u337 j224_u338 j225_u339 j226_u340 j227_u341 j228_u342 j229_u343 j230_u344 j231_u345 j232_u346
                      j233_u347 j234_u348 j235_u349 j236_u350 j237_u351 j238_u352 j239_u353 j240_u354 j241_u355 j242_K j243_gk j244_wr j245_u126 j246_u127 j247_u128 j248_u129
                      j249_u130 j250_u131 j251_u132 j252_u133 j253_u134 j254_u135 j255_u136 j256_u137 j257_u138 j258_u139 j259_u140 j260_u141 j261_u142 j262_u143 j263_u144 j264_J
                      j265_K j266_a j267_HQ j268_K j269_a j270_wc j271_u126 j272_u127 j273_u128 j274_u129 j275_u130 j276_u131 j277_u132 j278_u133 j279_u134 j280_u135 j281_u136
                      j282_u137 j283_u138 j284_u139 j285_u140 j286_u141 j287_u143 j288_u144 j289_K j290_gk j291_u150 j292_u151 j293_u152 j294_u153 j295_u154 j296_u155 j297_u156
                      j298_u157 j299_u158 j300_u159 j301_u160 j302_u161 j303_u162 j304_u163 j305_J j306_K j307_a j308_HQ j309_a j310_h j311_a j312_K j313_a j314_wc j315_u126
                      j316_u127 j317_u128 j318_u129 j319_u130 j320_u131 j321_u132 j322_u133 j323_u134 j324_u135 j325_u136 j326_u137 j327_u138 j328_u139 j329_u140 j330_u141 j331_u142
                      j332_u143 j333_u144 j334_u145 j335_u146 j336_u147 j337_u148 j338_u149 j339_u150 j340_u151 j341_u152 j342_u153 j343_u154 j344_u155 j345_u156 j346_u157 j347_u158
                      j348_u159 j349_u160 j350_u161 j351_u162 j352_u163 j353_u164 j354_u165 j355_u166 j356_u167 j357_u168 j358_u169 j359_u170 j360_J j361_K j362_a j363_a
                    revert B Mb gb nb cE N cap cn k c p1 p2 A E fin w hN HFIN i0_K Gb fb i1_gk j0_wr i2_u2 i3_u3 u8 u9 u10 u60 u61 u62 u63 u64 u65 u66 u67 u68 u69 u70 u71 u72 u73
                      u74 u75 u76 u77 u78 u79 u80 u81 u82 u83 u84 i4_J i5_K i6_a e HGF hE HRUN i7_Q i8_a he HG HCAP i9_K i10_a w5 sb HSB hc256 w6 Eb i11_K i12_a base j1_gk j2_u2
                      j3_u3 u6 u15 u16 u17 u18 u19 j4_u20 j5_u21 j6_u22 j7_u23 j8_u25 j9_u26 j10_u27 j11_u28 j12_u29 j13_u30 j14_u31 j15_u32 j16_u33 u120 u121 u122 u123 u124 u125
                      j17_u126 j18_u127 j19_u128 j20_u129 j21_u130 j22_u131 j23_u132 j24_u133 j25_u134 j26_u135 j27_u136 j28_u137 j29_u138 j30_u139 j31_u140 j32_u141 j33_u142
                      j34_u143 j35_u144 j36_u145 j37_u146 j38_u147 j39_u148 j40_u149 j41_u150 j42_u151 j43_u152 j44_u153 j45_u154 j46_u155 j47_u156 j48_u157 j49_u158 j50_u159
                      j51_u160 j52_u161 j53_u162 j54_u163 j55_u164 j56_u165 j57_u166 j58_u167 j59_u168 j60_u169 j61_u170 j62_u171 j63_u172 j64_u173 j65_u174 j66_u175 j67_u176
                      j68_u177 j69_u178 u179 u180 u181 u182 u183 j70_u184 j71_u185 j72_u186 j73_u187 j74_u188 j75_u189 j76_u190 j77_u191 j78_u192 j79_u193 j80_u194 j81_u195 j82_u196
                      j83_u197 j84_u198 j85_u199 j86_u200 j87_u201 j88_u202 j89_u203 j90_u204 j91_u205 j92_u206 j93_u207 j94_u208 j95_u209 j96_u210 j97_u211 j98_u212 j99_u213
                      j100_u214 j101_u215 j102_u216 j103_u217 j104_u218 j105_u219 j106_u220 j107_u221 j108_u222 j109_u223 j110_u224 j111_u225 j112_u226 j113_u227 j114_u228 j115_u229
                      j116_u230 j117_u231 j118_u232 j119_u233 j120_u234 j121_u235 j122_u236 j123_u237 j124_u238 j125_u239 j126_u240 j127_u241 j128_u242 j129_u243 j130_u244 j131_u245
                      j132_u246 j133_u247 j134_u248 j135_u249 j136_u250 j137_u251 j138_u252 j139_u253 j140_u254 j141_u255 j142_u256 j143_u257 j144_u258 j145_u259 j146_u260 j147_u261
                      j148_u262 j149_u263 j150_u264 j151_u265 j152_u266 j153_u267 j154_u268 j155_u269 j156_u270 j157_u271 j158_u272 j159_u273 j160_u274 j161_u275 j162_u276 j163_u277
                      j164_u278 j165_u279 j166_u280 j167_u281 j168_u282 j169_u283 j170_u284 j171_u285 j172_u286 j173_u287 j174_u288 j175_u289 j176_u290 j177_u291 j178_u292 j179_u293
                      j180_u294 j181_u295 j182_u296 j183_u297 j184_u298 j185_u299 j186_u300 j187_u301 j188_u302 j189_u303 j190_u304 j191_u305 j192_u306 j193_u307 j194_u308 j195_u309
                      j196_u310 j197_u311 j198_u312 j199_u313 j200_u314 j201_u315 j202_u316 j203_u317 j204_u318 j205_u319 j206_u320 j207_u321 j208_u322 j209_u323 j210_u324 j211_u325
                      j212_u326 j213_u327 j214_u328 j215_u329 j216_u330 j217_u331 j218_u332 j219_u333 j220_u334 j221_u335 j222_u336 j223_u337 j224_u338 j225_u339 j226_u340 j227_u341
                      j228_u342 j229_u343 j230_u344 j231_u345 j232_u346 j233_u347 j234_u348 j235_u349 j236_u350 j237_u351 j238_u352 j239_u353 j240_u354 j241_u355 i13_J i14_K i15_a
                      i16_a i n cc q hi HG8 wz hlt hlt2 fuel st j242_K j243_gk j244_wr j245_u126 j246_u127 j247_u128 j248_u129 j249_u130 j250_u131 j251_u132 j252_u133 j253_u134
                      j254_u135 j255_u136 j256_u137 j257_u138 j258_u139 j259_u140 j260_u141 j261_u142 j262_u143 j263_u144 j264_J j265_K j266_a j j267_HQ j268_K j269_a j270_wc
                      j271_u126 j272_u127 j273_u128 j274_u129 j275_u130 j276_u131 j277_u132 j278_u133 j279_u134 j280_u135 j281_u136 j282_u137 j283_u138 j284_u139 j285_u140 j286_u141
                      j287_u143 j288_u144 hjcap j289_K j290_gk wr j291_u150 j292_u151 j293_u152 j294_u153 j295_u154 j296_u155 j297_u156 j298_u157 j299_u158 j300_u159 j301_u160
                      j302_u161 j303_u162 j304_u163 j305_J j306_K j307_a s j308_HQ HK hkle hk1 j309_a HJ j310_h j311_a hs HG7 hsk ds j312_K j313_a j314_wc j315_u126 j316_u127
                      j317_u128 j318_u129 j319_u130 j320_u131 j321_u132 j322_u133 j323_u134 j324_u135 j325_u136 j326_u137 j327_u138 j328_u139 j329_u140 j330_u141 j331_u142 j332_u143
                      j333_u144 j334_u145 j335_u146 j336_u147 j337_u148 j338_u149 j339_u150 j340_u151 j341_u152 j342_u153 j343_u154 j344_u155 j345_u156 j346_u157 j347_u158 j348_u159
                      j349_u160 j350_u161 j351_u162 j352_u163 j353_u164 j354_u165 j355_u166 j356_u167 j357_u168 j358_u169 j359_u170 p0 c0 HQ wc u126 u127 u128 u129 u130 u131 u132
                      u133 u134 u135 u136 u137 u138 u139 u140 u141 u142 u143 u144 u145 u146 u147 u148 u149 u150 u151 u152 u153 u154 u155 u156 u157 u158 u159 u160 u161 u162 u163 u164
                      u165 u166 u167 u168 u169 u170 u171 u172 u173 u174 u175 u176 u177 u178 g2 c2 gk u2 u3 u20 u21 u22 u23 u25 u26 u27 u28 u29 u30 u31 u32 u33 u184 u185 u186 u187
                      u188 u189 u190 u191 u192 u193 u194 u195 u196 u197 u198 u199 u200 u201 u202 u203 u204 u205 u206 u207 u208 u209 u210 u211 u212 u213 u214 u215 u216 u217 u218 u219
                      u220 u221 u222 u223 u224 u225 u226 u227 u228 u229 u230 u231 u232 u233 u234 u235 u236 u237 u238 u239 u240 u241 u242 u243 u244 u245 u246 u247 u248 u249 u250 u251
                      u252 u253 u254 u255 u256 u257 u258 u259 u260 u261 u262 u263 u264 u265 u266 u267 u268 u269 u270 u271 u272 u273 u274 u275 u276 u277 u278 u279 u280 u281 u282 u283
                      u284 u285 u286 u287 u288 u289 u290 u291 u292 u293 u294 u295 u296 u297 u298 u299 u300 u301 u302 u303 u304 u305 u306 u307 u308 u309 u310 u311 u312 u313 u314 u315
                      u316 u317 u318 u319 u320 u321 u322 u323 u324 u325 u326 u327 u328 u329 u330 u331 u332 u333 u334 u335 u336 u337 u338 u339 u340 u341 u342 u343 u344 u345 u346 u347
                      u348 u349 u350 u351 u352 u353 u354 u355 j360_J j361_K j362_a j363_a m hm wy HQ9 HG9 hms
                    exact hP.out
                  · have dm : decide ((m : Int) < s) = false := by simp; omega
                    obtain ⟨st', hq1, _, hq2⟩ := HQ9.out
                    obtain ⟨f2, hq3⟩ := hq2 (by omega)
                    have HU := hide' (hq1.toRu hq3)
                    clear hq1 hq2 hq3 HQ9
                    go_wp2_with fail
                    go_roundg (cap - j)
                    case measure => have := HG8.out; have := HJ.out; omega
                    case rel => exact ⟨j, s, c2, some ⟨g2, 0, none⟩, rfl, rfl, hjcap, rfl, HU.out⟩)
end Go.Proofs.YbulkcgjqFmt
