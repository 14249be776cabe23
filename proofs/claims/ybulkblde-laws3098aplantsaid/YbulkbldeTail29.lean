import Derived.Test.YbulkbldeNew
import Derived.Test.YbulkbldePlain
import Derived.Deep.CutBlock
import Derived.Test.YbulkbldeLawA
import Derived.Test.YbulkbldeTail34
namespace Go.Proofs.Ybulkblde
open Go.RowKit
attribute [local go_sem ↓] Go.wp_at_zero Go.wp_at_succ hideEq

set_option maxRecDepth 1000000 in
set_option maxHeartbeats 20000000 in
theorem tail29 {w W : World} {n k m tot : Nat} {p : Nat → Nat} {s sP : Nat → St} {g : Nat → Nat} {bi g1 g2 cap1 first second read x wk rk bx : Nat}
    (hn : 2 ≤ n) (hn' : n ≤ 16) (hk : 2 ≤ k) (hk' : k ≤ 16) (hm' : m ≤ 26) (htb : tot ≤ 256) (HT : Hid (tot = n * k)) (prm : Prm n p) (hfs : first < second) (hsk : second < k) (hrk : read < k) (hx : x < m)
    (ok : Hid (∀ id, id < tot → ((s id).act = 1 ∨ (s id).act = 2) ∧ (s id).txn = id / k + 1 ∧ (s id).it < m))
    (HSP : Hid (sP = plS s k (p 0) (p 1) first second read x)) (L : LSt w n tot p s sP g bi g1 g2 W) (hbx : bx < W.heap.size)
    (bx0 : W.cell? ⟨bx, 0, none⟩ = some (.int .u8 2)) (bx1 : W.cell? ⟨bx, 1, none⟩ = some (.int .i64 ((p 0 + 1 : Nat) : Int))) (bx2 : W.cell? ⟨bx, 2, none⟩ = some (.string (itm x)))
    (HWK : Hid (wk = p 0 * k)) (HRK : Hid (rk = p 1 * k)) (hwk1 : wk + k ≤ tot) (hrk1 : rk + k ≤ tot)
    (wr : IntKind.i64.wrap (((p 1 : Nat) : Int) * (k : Int)) = (rk : Int)) 
    {y0 y1 y2 y3 y4 y5 y6 y7 y8 y14 y15 y19 y20 y21 y22 y23 y24 y25 y26 y27 y28 y33 y34 y35 y36 y37 y38 y39 y40 y41 y42 y43 y44 y45 y46 y47 y48 y49 y50 y51 y52 y53 y54 y55 y56 y57 y58 y59 y60 y61 y62 y63 y64 y65 y66 y67 y68 y69 y70 y71 y72 y73 y74 y75 y76 y77 y78 y79 y80 y81 y82 y83 y84 y85 y86 y87 y88 y89 y90 y91 y92 y93 y94 y95 y96 y97 y98 y99 y100 y101 y102 y103 y104 y105 y106 y107 y108 y109 y110 y111 y112 y113 y114 y115 y116 y117 y118 y119 y120 y121 y122 y123 y124 y125 y126 y127 y128 y129 y130 y131 y132 y133 y134 y135 y136 y137 y138 y139 y140 y141 y142 y143 y144 y145 y146 y147 y148 y149 y150 y151 y152 y153 y154 y155 y156 y157 y158 y159 y160 y161 y162 y163 y164 y165 y166 y167 y168 y169 y170 y171 y172 y173 y174 y175 y176 y177 y178 y179 y180 y181 y182 y183 y184 y185 y186 y187 y188 y189 y190 y191 y192 y193 y194 y195 y196 y197 y198 y199 y200 y201 y202 y203 y204 y205 y206 y207 y208 y209 y210 y211 y212 y213 y214 y215 y216 y217 y218 y219 y220 y221 y222 y223 y224 y225 y226 y227 y228 y229 y230 y231 y232 y233 y234 y235 y236 y237 y238 y239 y240 y241 y242 y243 y244 y245 y246 y247 y248 y249 y250 y251 y252 y253 y254 y255 y256 y257 y258 y259 y260 y261 y262 y263 y264 y265 y266 y267 y268 y269 y270 y271 y272 y273 y274 y275 y276 y277 y278 y279 y280 y281 y282 y283 y284 y285 y286 y287 y288 y289 y290 y291 y292 y293 y294 y295 y296 y297 y298 y299 y300 y301 y302 y303 y304 y305 y306 y307 y308 y309 y310 y311 y312 y313 y314 y315 y316 y317 y318 y319 y320 y321 y322 y323 y324 y325 y326 y327 y328 y329 y330 y331 y332 y333 y334 y335 y336 y337 y338 y339 y340 y341 y342 y343 y344 y345 y346 y347 y348 y349 y350 y351 y352 y353 y354 y355 y356 y357 y358 y359 y360 y361 y362 y363 y364 y365 y366 y367 y368 y369 y370 y371 y372 y373 y374 y375 y376 y377 y378 y379 y380 y381 y382 y383 y384 y385 y386 y387 y388 y389 y390 y391 y392 y393 y394 y395 y396 y397 y398 y399 y400 y401 y402 y403 y404 y405 y406 y407 y408 y409 y410 y411 y412 y413 y414 y415 y416 y417 y418 y419 y420 y421 y422 y423 y424 y425 y426 y427 y428 y429 y430 y431 y432 y433 y434 y435 y436 y437 y438 y439 y440 y441 y442 y443 y444 y445 y446 y447 y448 y449 y450 y451 y452 y453 y454 y455 y456 y457 y458 y459 y460 y461 y462 y463 y464 y465 : Value} :
    Code.wp Yba.prog (tl 29 (Yba.f3.body.getD .skip)) (bodyPost Yba.prog Yba.f3 fun e w' => e = .returned (.bool true) ∧ Below w.heap.size w w') ⟨#[y0, y1, y2, y3, y4, y5, y6, y7, y8, .int .i64 (n : Int), .int .i64 (k : Int), .int .i64 (m : Int), .pointer (some ⟨w.heap.size + 2, 0, none⟩), .slice (some ⟨g1, 0, none⟩) tot cap1, y14, y15, .int .i64 ((p 0 : Nat) : Int), .int .i64 ((p 1 : Nat) : Int), .int .i64 (tot : Int), y19, y20, y21, y22, y23, y24, y25, y26, y27, y28, .int .i64 (first : Int), .string (itm x), .pointer (some ⟨bx, 0, none⟩), .bool true, y33, y34, y35, y36, y37, y38, y39, y40, y41, y42, y43, y44, y45, y46, y47, y48, y49, y50, y51, y52, y53, y54, y55, y56, y57, y58, y59, y60, y61, y62, y63, y64, y65, y66, y67, y68, y69, y70, y71, y72, y73, y74, y75, y76, y77, y78, y79, y80, y81, y82, y83, y84, y85, y86, y87, y88, y89, y90, y91, y92, y93, y94, y95, y96, y97, y98, y99, y100, y101, y102, y103, y104, y105, y106, y107, y108, y109, y110, y111, y112, y113, y114, y115, y116, y117, y118, y119, y120, y121, y122, y123, y124, y125, y126, y127, y128, y129, y130, y131, y132, y133, y134, y135, y136, y137, y138, y139, y140, y141, y142, y143, y144, y145, y146, y147, y148, y149, y150, y151, y152, y153, y154, y155, y156, y157, y158, y159, y160, y161, y162, y163, y164, y165, y166, y167, y168, y169, y170, y171, y172, y173, y174, y175, y176, y177, y178, y179, y180, y181, y182, y183, y184, y185, y186, y187, y188, y189, y190, y191, y192, y193, y194, y195, y196, y197, y198, y199, y200, y201, y202, y203, y204, y205, y206, y207, y208, y209, y210, y211, y212, y213, y214, y215, y216, y217, y218, y219, y220, y221, y222, y223, y224, y225, y226, y227, y228, y229, y230, y231, y232, y233, y234, y235, y236, y237, y238, y239, y240, y241, y242, y243, y244, y245, y246, y247, y248, y249, y250, y251, y252, y253, y254, y255, y256, y257, y258, y259, y260, y261, y262, y263, y264, y265, y266, y267, y268, y269, y270, y271, y272, y273, y274, y275, y276, y277, y278, y279, y280, y281, y282, y283, y284, y285, y286, y287, y288, y289, y290, y291, y292, y293, y294, y295, y296, y297, y298, y299, y300, y301, y302, y303, y304, y305, y306, y307, y308, y309, y310, y311, y312, y313, y314, y315, y316, y317, y318, y319, y320, y321, y322, y323, y324, y325, y326, y327, y328, y329, y330, y331, y332, y333, y334, y335, y336, y337, y338, y339, y340, y341, y342, y343, y344, y345, y346, y347, y348, y349, y350, y351, y352, y353, y354, y355, y356, y357, y358, y359, y360, y361, y362, y363, y364, y365, y366, y367, y368, y369, y370, y371, y372, y373, y374, y375, y376, y377, y378, y379, y380, y381, y382, y383, y384, y385, y386, y387, y388, y389, y390, y391, y392, y393, y394, y395, y396, y397, y398, y399, y400, y401, y402, y403, y404, y405, y406, y407, y408, y409, y410, y411, y412, y413, y414, y415, y416, y417, y418, y419, y420, y421, y422, y423, y424, y425, y426, y427, y428, y429, y430, y431, y432, y433, y434, y435, y436, y437, y438, y439, y440, y441, y442, y443, y444, y445, y446, y447, y448, y449, y450, y451, y452, y453, y454, y455, y456, y457, y458, y459, y460, y461, y462, y463, y464, y465], []⟩ W := by
  conv => arg 2; whnf
  have x4 := L.gs
  have hp0 := prm.lt 0 (by omega)
  have hp1 := prm.lt 1 (by omega)
  have hpne : p 0 ≠ p 1 := fun h => by have := prm.inj 0 1 (by omega) (by omega) h; omega
  go_upto_block 12 with fail
  go_cut [34] from 367 to 368 (fun s34 wx => ∃ j : Nat, s34 = .int .i64 j ∧ j ≤ read ∧ (sP (rk + j)).it = x ∧ wx = W)
  case first =>
    go_wp2_with fail
    go_loopw [34] (fun i wr => ∃ j : Nat, j ≤ read ∧ i = .int .i64 j ∧ wr = W) (fun i _ => k - (intOf i).toNat)
    case atStart => exact ⟨0, by omega, by go_num, rfl⟩
    case round =>
      obtain ⟨j, hj1, rfl, rfl⟩ := hrel
      obtain ⟨fj, hfj⟩ : ∃ x, x = rk + j := ⟨_, rfl⟩
      have s3 := L.st (fj * 3 + 2) (by omega)
      rw [stc2] at s3
      have ej : IntKind.i64.wrap ((rk : Int) + (j : Int)) = (fj : Int) := wrapI _ (by omega) (by omega) |>.trans (by omega)
      have ij : (fj : Int) < (tot : Int) := by omega
      have hi26 : (sP fj).it < 26 := by have := (ok.out fj (by omega)).2.2; rw [HSP.out]; exact Nat.lt_of_lt_of_le (plS_it hx _ this) hm'
      have q1 := itm_eq (sP fj).it x hi26 (by omega)
      have HR : Hid (j = read → (sP fj).it = x) := fun e => by
        rw [HSP.out, hfj, HRK.out, plS_r (by omega) (by omega) hpne (by omega), if_pos e]
      have hjk : (j : Int) < (k : Int) := by omega
      have HFJ : Hid (fj = rk + j) := hfj
      clear hfj
      by_cases hit : (sP fj).it = x
      · rw [decide_eq_true hit] at q1
        have HH : Hid ((sP fj).it = x) := hit
        clear hit
        go_wp2_with fail
        go_meet
        case rel => exact ⟨j, rfl, hj1, by rw [← HFJ.out]; exact HH.out, rfl⟩
      · rw [decide_eq_false hit] at q1
        have HH : Hid ((sP fj).it ≠ x) := hit
        clear hit
        go_wp2_with fail
        have hne : j ≠ read := fun e => HH.out (HR.out e)
        exact ⟨⟨j + 1, by omega, by go_num, trivial⟩, by show k - ((j : Int) + 1).toNat < k - ((j : Int)).toNat; omega⟩
  case rest =>
    obtain ⟨j, rfl, hj, hit, rfl⟩ := hcut
    obtain ⟨fj, hfj⟩ : ∃ x, x = rk + j := ⟨_, rfl⟩
    have sf : sP fj = ⟨1, p 1 + 1, x⟩ := by
      rw [← hfj] at hit
      rw [HSP.out, hfj, HRK.out, plS_r (by omega) (by omega) hpne (by omega)] at hit ⊢
      by_cases e : j = read
      · rw [if_pos e]
      · rw [if_neg e] at hit ⊢
        by_cases e2 : j < read ∧ (s (p 1 * k + j)).it = x
        · rw [if_pos e2, e2.2, (ok.out (p 1 * k + j) (by rw [← HRK.out]; omega)).2.1, (div_mod_of k (p 1) (p 1 * k + j) (by omega) (by omega)).1]
        · rw [if_neg e2] at hit
          exact absurd ⟨by omega, hit⟩ e2
    have s1 := L.st (fj * 3) (by omega)
    have s2 := L.st (fj * 3 + 1) (by omega)
    have s3 := L.st (fj * 3 + 2) (by omega)
    rw [stc0, sf] at s1
    rw [stc1, sf] at s2
    rw [stc2, sf] at s3
    dsimp only at s1 s2 s3
    have ej : IntKind.i64.wrap ((rk : Int) + (j : Int)) = (fj : Int) := wrapI _ (by omega) (by omega) |>.trans (by omega)
    have ij : (fj : Int) < (tot : Int) := by omega
    have hjk : ((j : Int) == (k : Int)) = false := by rw [beq_eq_false_iff_ne]; omega
    clear sf hfj hit
    go_upto_region 70 with fail
    go_cut [35, 36] from 399 to 400 (fun s35 s36 wx => s35 = .int .i64 0 ∧ s36 = .int .i64 0 ∧ wx = wc)
    case first =>
      go_wp2_with fail
      go_meet
      case rel => exact ⟨rfl, rfl, rfl⟩
    case rest =>
      obtain ⟨rfl, rfl, rfl⟩ := hcut
      refine ‹∀ (a : Act) (w : World), Code.wp Yba.prog _ _ a w → _› _ _ ?_
      exact tail34 hn hn' hk hk' hm' htb HT prm hfs hsk hrk hx ok HSP L hbx bx0 bx1 bx2 HWK HRK hwk1 hrk1
end Go.Proofs.Ybulkblde
