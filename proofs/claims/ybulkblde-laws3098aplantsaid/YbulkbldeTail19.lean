import Derived.Test.YbulkbldeNew
import Derived.Test.YbulkbldePlain
import Derived.Deep.CutBlock
import Derived.Test.YbulkbldeLawA
import Derived.Test.YbulkbldeTail26
namespace Go.Proofs.Ybulkblde
open Go.RowKit
attribute [local go_sem ↓] Go.wp_at_zero Go.wp_at_succ

set_option maxRecDepth 1000000 in
set_option maxHeartbeats 20000000 in
theorem tail19 {w W : World} {n k m tot : Nat} {p : Nat → Nat} {s sP : Nat → St} {g : Nat → Nat} {bi g1 g2 cap1 bps at_ first second read x A wk rk k1 rs re : Nat}
    (hn : 2 ≤ n) (hn' : n ≤ 16) (hk : 2 ≤ k) (hk' : k ≤ 16) (hm' : m ≤ 26) (htb : tot ≤ 256) (HT : Hid (tot = n * k)) (prm : Prm n p) (hfs : first < second) (hsk : second < k) (hrk : read < k) (hx : x < m)
    (ok : Hid (∀ id, id < tot → ((s id).act = 1 ∨ (s id).act = 2) ∧ (s id).txn = id / k + 1 ∧ (s id).it < m))
    (HSP : Hid (sP = plS s k (p 0) (p 1) first second read x)) (L7 : LSt w n tot p s sP g bi g1 g2 W)
    (HWC : Hid (∀ j, j < k → W.cell? ⟨bps, wk + j, none⟩ = some (.int .i64 ((ps k at_ first 0 j : Nat) : Int))))
    (HPSW : Hid (∀ j, ps k at_ first 0 j = if j ≤ first then A + j else A + k + j)) (HWK : Hid (wk = p 0 * k)) (HRK : Hid (rk = p 1 * k)) (hAb : A + 2 * k ≤ tot) (hwk1 : wk + k ≤ tot) (hrk1 : rk + k ≤ tot)
    (ww : IntKind.i64.wrap (((p 0 : Nat) : Int) * (k : Int)) = (wk : Int)) (wr : IntKind.i64.wrap (((p 1 : Nat) : Int) * (k : Int)) = (rk : Int))
    (HRE : Hid (rs = A + (first + 1) ∧ re = A + (first + 1) + k1 ∧ k = k1 + 1))
    {y0 y1 y2 y3 y4 y5 y6 y7 y8 y14 y15 y20 y21 y22 y23 y24 y28 y29 y30 y31 y32 y33 y34 y35 y36 y37 y38 y39 y40 y41 y42 y43 y44 y45 y46 y47 y48 y49 y50 y51 y52 y53 y54 y55 y56 y57 y58 y59 y60 y61 y62 y63 y64 y65 y66 y67 y68 y69 y70 y71 y72 y73 y74 y75 y76 y77 y78 y79 y80 y81 y82 y83 y84 y85 y86 y87 y88 y89 y90 y91 y92 y93 y94 y95 y96 y97 y98 y99 y100 y101 y102 y103 y104 y105 y106 y107 y108 y109 y110 y111 y112 y113 y114 y115 y116 y117 y118 y119 y120 y121 y122 y123 y124 y125 y126 y127 y128 y129 y130 y131 y132 y133 y134 y135 y136 y137 y138 y139 y140 y141 y142 y143 y144 y145 y146 y147 y148 y149 y150 y151 y152 y153 y154 y155 y156 y157 y158 y159 y160 y161 y162 y163 y164 y165 y166 y167 y168 y169 y170 y171 y172 y173 y174 y175 y176 y177 y178 y179 y180 y181 y182 y183 y184 y185 y186 y187 y188 y189 y190 y191 y192 y193 y194 y195 y196 y197 y198 y199 y200 y201 y202 y203 y204 y205 y206 y207 y208 y209 y210 y211 y212 y213 y214 y215 y216 y217 y218 y219 y220 y221 y222 y223 y224 y225 y226 y227 y228 y229 y230 y231 y232 y233 y234 y235 y236 y237 y238 y239 y240 y241 y242 y243 y244 y245 y246 y247 y248 y249 y250 y251 y252 y253 y254 y255 y256 y257 y258 y259 y260 y261 y262 y263 y264 y265 y266 y267 y268 y269 y270 y271 y272 y273 y274 y275 y276 y277 y278 y279 y280 y281 y282 y283 y284 y285 y286 y287 y288 y289 y290 y291 y292 y293 y294 y295 y296 y297 y298 y299 y300 y301 y302 y303 y304 y305 y306 y307 y308 y309 y310 y311 y312 y313 y314 y315 y316 y317 y318 y319 y320 y321 y322 y323 y324 y325 y326 y327 y328 y329 y330 y331 y332 y333 y334 y335 y336 y337 y338 y339 y340 y341 y342 y343 y344 y345 y346 y347 y348 y349 y350 y351 y352 y353 y354 y355 y356 y357 y358 y359 y360 y361 y362 y363 y364 y365 y366 y367 y368 y369 y370 y371 y372 y373 y374 y375 y376 y377 y378 y379 y380 y381 y382 y383 y384 y385 y386 y387 y388 y389 y390 y391 y392 y393 y394 y395 y396 y397 y398 y399 y400 y401 y402 y403 y404 y405 y406 y407 y408 y409 y410 y411 y412 y413 y414 y415 y416 y417 y418 y419 y420 y421 y422 y423 y424 y425 y426 y427 y428 y429 y430 y431 y432 y433 y434 y435 y436 y437 y438 y439 y440 y441 y442 y443 y444 y445 y446 y447 y448 y449 y450 y451 y452 y453 y454 y455 y456 y457 y458 y459 y460 y461 y462 y463 y464 y465 : Value} :
    Code.wp Yba.prog (tl 19 (Yba.f3.body.getD .skip)) (bodyPost Yba.prog Yba.f3 fun e w' => e = .returned (.bool true) ∧ Below w.heap.size w w') ⟨#[y0, y1, y2, y3, y4, y5, y6, y7, y8, .int .i64 (n : Int), .int .i64 (k : Int), .int .i64 (m : Int), .pointer (some ⟨w.heap.size + 2, 0, none⟩), .slice (some ⟨g1, 0, none⟩) tot cap1, y14, y15, .int .i64 ((p 0 : Nat) : Int), .int .i64 ((p 1 : Nat) : Int), .int .i64 (tot : Int), .slice (some ⟨bps, 0, none⟩) tot tot, y20, y21, y22, y23, y24, .int .i64 (rs : Int), .int .i64 (re : Int), .int .i64 ((first + 1 : Nat) : Int), y28, y29, y30, y31, y32, y33, y34, y35, y36, y37, y38, y39, y40, y41, y42, y43, y44, y45, y46, y47, y48, y49, y50, y51, y52, y53, y54, y55, y56, y57, y58, y59, y60, y61, y62, y63, y64, y65, y66, y67, y68, y69, y70, y71, y72, y73, y74, y75, y76, y77, y78, y79, y80, y81, y82, y83, y84, y85, y86, y87, y88, y89, y90, y91, y92, y93, y94, y95, y96, y97, y98, y99, y100, y101, y102, y103, y104, y105, y106, y107, y108, y109, y110, y111, y112, y113, y114, y115, y116, y117, y118, y119, y120, y121, y122, y123, y124, y125, y126, y127, y128, y129, y130, y131, y132, y133, y134, y135, y136, y137, y138, y139, y140, y141, y142, y143, y144, y145, y146, y147, y148, y149, y150, y151, y152, y153, y154, y155, y156, y157, y158, y159, y160, y161, y162, y163, y164, y165, y166, y167, y168, y169, y170, y171, y172, y173, y174, y175, y176, y177, y178, y179, y180, y181, y182, y183, y184, y185, y186, y187, y188, y189, y190, y191, y192, y193, y194, y195, y196, y197, y198, y199, y200, y201, y202, y203, y204, y205, y206, y207, y208, y209, y210, y211, y212, y213, y214, y215, y216, y217, y218, y219, y220, y221, y222, y223, y224, y225, y226, y227, y228, y229, y230, y231, y232, y233, y234, y235, y236, y237, y238, y239, y240, y241, y242, y243, y244, y245, y246, y247, y248, y249, y250, y251, y252, y253, y254, y255, y256, y257, y258, y259, y260, y261, y262, y263, y264, y265, y266, y267, y268, y269, y270, y271, y272, y273, y274, y275, y276, y277, y278, y279, y280, y281, y282, y283, y284, y285, y286, y287, y288, y289, y290, y291, y292, y293, y294, y295, y296, y297, y298, y299, y300, y301, y302, y303, y304, y305, y306, y307, y308, y309, y310, y311, y312, y313, y314, y315, y316, y317, y318, y319, y320, y321, y322, y323, y324, y325, y326, y327, y328, y329, y330, y331, y332, y333, y334, y335, y336, y337, y338, y339, y340, y341, y342, y343, y344, y345, y346, y347, y348, y349, y350, y351, y352, y353, y354, y355, y356, y357, y358, y359, y360, y361, y362, y363, y364, y365, y366, y367, y368, y369, y370, y371, y372, y373, y374, y375, y376, y377, y378, y379, y380, y381, y382, y383, y384, y385, y386, y387, y388, y389, y390, y391, y392, y393, y394, y395, y396, y397, y398, y399, y400, y401, y402, y403, y404, y405, y406, y407, y408, y409, y410, y411, y412, y413, y414, y415, y416, y417, y418, y419, y420, y421, y422, y423, y424, y425, y426, y427, y428, y429, y430, y431, y432, y433, y434, y435, y436, y437, y438, y439, y440, y441, y442, y443, y444, y445, y446, y447, y448, y449, y450, y451, y452, y453, y454, y455, y456, y457, y458, y459, y460, y461, y462, y463, y464, y465], []⟩ W := by
  conv => arg 2; whnf
  have w1c := HWC.out first (by omega)
  have w2c := HWC.out (first + 1) (by omega)
  have w3c := HWC.out 0 (by omega)
  obtain ⟨hr1, hr2, hr3⟩ := HRE.out
  have w4c := HWC.out k1 (by omega)
  rw [HPSW.out] at w1c w2c w3c w4c
  rw [if_pos (by omega)] at w1c w3c
  rw [if_neg (by omega)] at w2c w4c
  obtain ⟨d1, hd1⟩ : ∃ d, d = A + first := ⟨_, rfl⟩
  obtain ⟨d2, hd2⟩ : ∃ d, d = A + k + (first + 1) := ⟨_, rfl⟩
  obtain ⟨d4, hd4⟩ : ∃ d, d = A + k + k1 := ⟨_, rfl⟩
  obtain ⟨f1, hf1⟩ : ∃ x, x = wk + first := ⟨_, rfl⟩
  obtain ⟨f4, hf4⟩ : ∃ x, x = wk + k1 := ⟨_, rfl⟩
  rw [← hd1, ← hf1] at w1c
  rw [← hd2, show wk + (first + 1) = f1 + 1 by omega] at w2c
  rw [Nat.add_zero, Nat.add_zero] at w3c
  rw [← hd4, ← hf4] at w4c
  have u1' : (((d1 : Nat) : Int) + 1 != (rs : Int)) = false := by rw [bne_eq_false_iff_eq]; omega
  have u2' : ((d2 : Int) != (re : Int) + 1) = false := by rw [bne_eq_false_iff_eq]; omega
  have e3 : IntKind.i64.wrap ((d1 : Int) - (A : Int)) = (first : Int) := by rw [wrapI _ (by omega) (by omega)]; omega
  have e4 : IntKind.i64.wrap ((d4 : Int) - (d2 : Int)) = (k : Int) - 2 - first := by rw [wrapI _ (by omega) (by omega)]; omega
  have e5 : IntKind.i64.wrap ((wk : Int) + (first : Int)) = (f1 : Int) := by rw [wrapI _ (by omega) (by omega)]; omega
  have e6 : IntKind.i64.wrap ((f1 : Int) + 1) = (f1 : Int) + 1 := wrapI _ (by omega) (by omega)
  have e7 : IntKind.i64.wrap ((wk : Int) + (k : Int)) = (f4 : Int) + 1 := by rw [wrapI _ (by omega) (by omega)]; omega
  have e8 : IntKind.i64.wrap (f4 : Int) = (f4 : Int) := wrapI _ (by omega) (by omega)
  have e9 : IntKind.i64.wrap (IntKind.i64.wrap ((k : Int) - 2) - (first : Int)) = (k : Int) - 2 - first := by rw [wrapI ((k : Int) - 2) (by omega) (by omega), wrapI _ (by omega) (by omega)]
  have i3 : (f1 : Int) + 1 < (tot : Int) := by omega
  have i4 : (f4 : Int) < (tot : Int) := by omega
  have i5 : (f1 : Int) < (tot : Int) := by omega
  have i6 : (wk : Int) < (tot : Int) := by omega
  have hwf : (wk : Int) + (first : Int) = (f1 : Int) := by omega
  have t1 : ¬ (k : Int) - 1 < (first : Int) + 1 := by omega
  have bd1 : d1 ≤ 300 := by omega
  have bd2 : d2 ≤ 300 := by omega
  have bd3 : re ≤ 300 := by omega
  have bd4 : f1 ≤ 300 := by omega
  have HF1 : Hid (f1 = wk + first) := hf1
  clear hd1 hd2 hd4 hf4 hf1 hr1 hr2 hr3
  go_upto_region 49 with fail
  go_quiet (fail)
  clear u1' u2' e3 e4 e5 e6 e7 e8 e9 w1c w2c w3c w4c t1 bd1 bd2 bd3
  go_upto_region 51 with fail
  obtain ⟨W8, hW8⟩ : ∃ W', W' = W.drewN nq := ⟨_, rfl⟩
  have L8 : LSt w n tot p s sP g bi g1 g2 W8 := by rw [hW8]; exact L7.grow (below_drewN (Below.refl _ _) _)
  rw [← hW8]
  clear hW8 L7 HWC
  have x4 := L8.gs
  have hpne : p 0 ≠ p 1 := fun h => by have := prm.inj 0 1 (by omega) (by omega) h; omega
  have sf : sP f1 = ⟨2, p 0 + 1, x⟩ := by
    rw [HSP.out, HF1.out, HWK.out, plS_w (by omega) (by omega) (by omega) hpne (by omega), if_pos (Or.inl rfl)]
  have s3 := L8.st (f1 * 3 + 2) (by omega)
  rw [stc2, sf] at s3
  clear hpne sf
  go_cut [30] from 299 to 300 (fun s30 wx => s30 = .string (itm x) ∧ wx = W8)
  case first =>
    go_wp2_with fail
    go_meet
    case rel => exact ⟨rfl, rfl⟩
  case rest =>
    obtain ⟨rfl, rfl⟩ := hcut
    have sz := itm_size x (by omega)
    have ix := itm_index x (by omega) wc
    have h65 : (65 : Int) ≤ ((65 + x : Nat) : Int) := by omega
    have wxm : IntKind.u8.wrap (((65 + x : Nat) : Int) - 65) = (x : Int) := by rw [IntKind.wrap_u8]; omega
    have hxm : (x : Int) < (m : Int) := by omega
    go_upto_region 54 with fail
    clear sz ix h65 wxm hxm
    have hp0 := prm.lt 0 (by omega)
    go_cut [31] from 331 to 332 (fun s31 wx => s31 = .pointer (some ⟨wc.heap.size, 0, none⟩) ∧ wx = wc.alloc (.cells #[.int .u8 2, .int .i64 ((p 0 : Int) + 1), .string (itm x)] 32))
    case first =>
      have hpw : IntKind.i64.wrap ((p 0 : Int) + 1) = (p 0 : Int) + 1 := wrapI _ (by omega) (by omega)
      go_wp2_with fail
      go_meet
      case rel => exact ⟨rfl, rfl⟩
    case rest =>
      obtain ⟨rfl, rfl⟩ := hcut
      have c0 : (wc.alloc (.cells #[.int .u8 2, .int .i64 ((p 0 : Int) + 1), .string (itm x)] 32)).cell? ⟨wc.heap.size, 0, none⟩ = some (.int .u8 2) := new_cell rfl rfl
      have c1 : (wc.alloc (.cells #[.int .u8 2, .int .i64 ((p 0 : Int) + 1), .string (itm x)] 32)).cell? ⟨wc.heap.size, 1, none⟩ = some (.int .i64 ((p 0 + 1 : Nat) : Int)) := new_cell rfl rfl
      have c2 : (wc.alloc (.cells #[.int .u8 2, .int .i64 ((p 0 : Int) + 1), .string (itm x)] 32)).cell? ⟨wc.heap.size, 2, none⟩ = some (.string (itm x)) := new_cell rfl rfl
      have LL := L8.grow (wy := wc.alloc (.cells #[.int .u8 2, .int .i64 ((p 0 : Int) + 1), .string (itm x)] 32)) ((Below.refl _ _).alloc (Nat.le_refl _) _)
      have hl : wc.heap.size < (wc.alloc (.cells #[.int .u8 2, .int .i64 ((p 0 : Int) + 1), .string (itm x)] 32)).heap.size := by simp
      refine ‹∀ (a : Act) (w : World), Code.wp Yba.prog _ _ a w → _› _ _ ?_
      exact tail26 (bx := wc.heap.size) hn hn' hk hk' hm' htb HT prm hfs hsk hrk hx ok HSP LL hl c0 c1 c2 HWK HRK hwk1 hrk1 ww wr
end Go.Proofs.Ybulkblde
