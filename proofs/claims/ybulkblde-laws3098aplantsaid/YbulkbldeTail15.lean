import Derived.Test.YbulkbldeNew
import Derived.Test.YbulkbldePlain
import Derived.Deep.CutBlock
import Derived.Test.YbulkbldeLawA
import Derived.Test.YbulkbldeTail19
namespace Go.Proofs.Ybulkblde
open Go.RowKit
attribute [local go_sem ↓] Go.wp_at_zero Go.wp_at_succ

set_option maxRecDepth 1000000 in
set_option maxHeartbeats 20000000 in
theorem tail15 {w W : World} {n k m tot : Nat} {p : Nat → Nat} {s sP : Nat → St} {g : Nat → Nat} {f : Nat → Int} {bi g1 g2 cap1 bps at_ first second read x : Nat}
    (hn : 2 ≤ n) (hn' : n ≤ 16) (hk : 2 ≤ k) (hk' : k ≤ 16) (hm' : m ≤ 26) (htb : tot ≤ 256) (HT : Hid (tot = n * k)) (prm : Prm n p) (hfs : first < second) (hsk : second < k) (hrk : read < k) (hx : x < m) (hat : at_ ≤ n - 2)
    (ok : Hid (∀ id, id < tot → ((s id).act = 1 ∨ (s id).act = 2) ∧ (s id).txn = id / k + 1 ∧ (s id).it < m))
    (HSP : Hid (sP = plS s k (p 0) (p 1) first second read x)) (L : LSt w n tot p s sP g bi g1 g2 W)
    (HPOS : Hid (∀ q j, q < n → j < k → f (p q * k + j) = (ps k at_ first q j : Int))) (POSC : Hid (∀ a, a < tot → W.cell? ⟨bps, a, none⟩ = some (.int .i64 (f a)))) (PSB : Hid (∀ q j, q < n → j < k → ps k at_ first q j < 256))
    {y0 y1 y2 y3 y4 y5 y6 y7 y8 y14 y15 y20 y21 y22 y23 y24 y25 y26 y27 y28 y29 y30 y31 y32 y33 y34 y35 y36 y37 y38 y39 y40 y41 y42 y43 y44 y45 y46 y47 y48 y49 y50 y51 y52 y53 y54 y55 y56 y57 y58 y59 y60 y61 y62 y63 y64 y65 y66 y67 y68 y69 y70 y71 y72 y73 y74 y75 y76 y77 y78 y79 y80 y81 y82 y83 y84 y85 y86 y87 y88 y89 y90 y91 y92 y93 y94 y95 y96 y97 y98 y99 y100 y101 y102 y103 y104 y105 y106 y107 y108 y109 y110 y111 y112 y113 y114 y115 y116 y117 y118 y119 y120 y121 y122 y123 y124 y125 y126 y127 y128 y129 y130 y131 y132 y133 y134 y135 y136 y137 y138 y139 y140 y141 y142 y143 y144 y145 y146 y147 y148 y149 y150 y151 y152 y153 y154 y155 y156 y157 y158 y159 y160 y161 y162 y163 y164 y165 y166 y167 y168 y169 y170 y171 y172 y173 y174 y175 y176 y177 y178 y179 y180 y181 y182 y183 y184 y185 y186 y187 y188 y189 y190 y191 y192 y193 y194 y195 y196 y197 y198 y199 y200 y201 y202 y203 y204 y205 y206 y207 y208 y209 y210 y211 y212 y213 y214 y215 y216 y217 y218 y219 y220 y221 y222 y223 y224 y225 y226 y227 y228 y229 y230 y231 y232 y233 y234 y235 y236 y237 y238 y239 y240 y241 y242 y243 y244 y245 y246 y247 y248 y249 y250 y251 y252 y253 y254 y255 y256 y257 y258 y259 y260 y261 y262 y263 y264 y265 y266 y267 y268 y269 y270 y271 y272 y273 y274 y275 y276 y277 y278 y279 y280 y281 y282 y283 y284 y285 y286 y287 y288 y289 y290 y291 y292 y293 y294 y295 y296 y297 y298 y299 y300 y301 y302 y303 y304 y305 y306 y307 y308 y309 y310 y311 y312 y313 y314 y315 y316 y317 y318 y319 y320 y321 y322 y323 y324 y325 y326 y327 y328 y329 y330 y331 y332 y333 y334 y335 y336 y337 y338 y339 y340 y341 y342 y343 y344 y345 y346 y347 y348 y349 y350 y351 y352 y353 y354 y355 y356 y357 y358 y359 y360 y361 y362 y363 y364 y365 y366 y367 y368 y369 y370 y371 y372 y373 y374 y375 y376 y377 y378 y379 y380 y381 y382 y383 y384 y385 y386 y387 y388 y389 y390 y391 y392 y393 y394 y395 y396 y397 y398 y399 y400 y401 y402 y403 y404 y405 y406 y407 y408 y409 y410 y411 y412 y413 y414 y415 y416 y417 y418 y419 y420 y421 y422 y423 y424 y425 y426 y427 y428 y429 y430 y431 y432 y433 y434 y435 y436 y437 y438 y439 y440 y441 y442 y443 y444 y445 y446 y447 y448 y449 y450 y451 y452 y453 y454 y455 y456 y457 y458 y459 y460 y461 y462 y463 y464 y465 : Value} :
    Code.wp Yba.prog (tl 15 (Yba.f3.body.getD .skip)) (bodyPost Yba.prog Yba.f3 fun e w' => e = .returned (.bool true) ∧ Below w.heap.size w w') ⟨#[y0, y1, y2, y3, y4, y5, y6, y7, y8, .int .i64 (n : Int), .int .i64 (k : Int), .int .i64 (m : Int), .pointer (some ⟨w.heap.size + 2, 0, none⟩), .slice (some ⟨g1, 0, none⟩) tot cap1, y14, y15, .int .i64 ((p 0 : Nat) : Int), .int .i64 ((p 1 : Nat) : Int), .int .i64 (tot : Int), .slice (some ⟨bps, 0, none⟩) tot tot, y20, y21, y22, y23, y24, y25, y26, y27, y28, y29, y30, y31, y32, y33, y34, y35, y36, y37, y38, y39, y40, y41, y42, y43, y44, y45, y46, y47, y48, y49, y50, y51, y52, y53, y54, y55, y56, y57, y58, y59, y60, y61, y62, y63, y64, y65, y66, y67, y68, y69, y70, y71, y72, y73, y74, y75, y76, y77, y78, y79, y80, y81, y82, y83, y84, y85, y86, y87, y88, y89, y90, y91, y92, y93, y94, y95, y96, y97, y98, y99, y100, y101, y102, y103, y104, y105, y106, y107, y108, y109, y110, y111, y112, y113, y114, y115, y116, y117, y118, y119, y120, y121, y122, y123, y124, y125, y126, y127, y128, y129, y130, y131, y132, y133, y134, y135, y136, y137, y138, y139, y140, y141, y142, y143, y144, y145, y146, y147, y148, y149, y150, y151, y152, y153, y154, y155, y156, y157, y158, y159, y160, y161, y162, y163, y164, y165, y166, y167, y168, y169, y170, y171, y172, y173, y174, y175, y176, y177, y178, y179, y180, y181, y182, y183, y184, y185, y186, y187, y188, y189, y190, y191, y192, y193, y194, y195, y196, y197, y198, y199, y200, y201, y202, y203, y204, y205, y206, y207, y208, y209, y210, y211, y212, y213, y214, y215, y216, y217, y218, y219, y220, y221, y222, y223, y224, y225, y226, y227, y228, y229, y230, y231, y232, y233, y234, y235, y236, y237, y238, y239, y240, y241, y242, y243, y244, y245, y246, y247, y248, y249, y250, y251, y252, y253, y254, y255, y256, y257, y258, y259, y260, y261, y262, y263, y264, y265, y266, y267, y268, y269, y270, y271, y272, y273, y274, y275, y276, y277, y278, y279, y280, y281, y282, y283, y284, y285, y286, y287, y288, y289, y290, y291, y292, y293, y294, y295, y296, y297, y298, y299, y300, y301, y302, y303, y304, y305, y306, y307, y308, y309, y310, y311, y312, y313, y314, y315, y316, y317, y318, y319, y320, y321, y322, y323, y324, y325, y326, y327, y328, y329, y330, y331, y332, y333, y334, y335, y336, y337, y338, y339, y340, y341, y342, y343, y344, y345, y346, y347, y348, y349, y350, y351, y352, y353, y354, y355, y356, y357, y358, y359, y360, y361, y362, y363, y364, y365, y366, y367, y368, y369, y370, y371, y372, y373, y374, y375, y376, y377, y378, y379, y380, y381, y382, y383, y384, y385, y386, y387, y388, y389, y390, y391, y392, y393, y394, y395, y396, y397, y398, y399, y400, y401, y402, y403, y404, y405, y406, y407, y408, y409, y410, y411, y412, y413, y414, y415, y416, y417, y418, y419, y420, y421, y422, y423, y424, y425, y426, y427, y428, y429, y430, y431, y432, y433, y434, y435, y436, y437, y438, y439, y440, y441, y442, y443, y444, y445, y446, y447, y448, y449, y450, y451, y452, y453, y454, y455, y456, y457, y458, y459, y460, y461, y462, y463, y464, y465], []⟩ W := by
  conv => arg 2; whnf
  go_upto_block 4 with fail
  go_cut [23, 24] from 125 to 126 (fun _ _ wx => ∃ q, wx = W.drewN q)
  case first =>
    go_wp2_with fail
    go_loopw [23, 24] (fun i _ wr => ∃ t : Nat, t ≤ n ∧ i = .int .i64 t ∧ ∃ q, wr = W.drewN q) (fun i _ _ => n - (intOf i).toNat)
    case atStart => exact ⟨0, Nat.zero_le _, rfl, 0, rfl⟩
    case round =>
      obtain ⟨t, ht, rfl, qd, rfl⟩ := hrel
      by_cases hlt : t < n
      · obtain ⟨q0, hq0, hpq⟩ := prm.sur t hlt
        obtain ⟨tk, htk⟩ : ∃ tk, tk = t * k := ⟨_, rfl⟩
        have htk1 : tk + k ≤ tot := by rw [htk, HT.out]; exact mul_lt_of hlt
        have hw0 : IntKind.i64.wrap ((t : Int) * (k : Int)) = (tk : Int) := by rw [← Int.natCast_mul, ← htk, IntKind.wrap_i64]; omega
        have PP : ∀ j, j < k → W.cell? ⟨bps, tk + j, none⟩ = some (.int .i64 ((ps k at_ first q0 j : Nat) : Int)) := by
          intro j hj
          rw [POSC.out _ (by omega), htk, ← hpq, HPOS.out q0 j hq0 hj]
        have HPP := (show Hid _ from PP)
        have HTK : Hid (tk = t * k) := htk
        have HPQ : Hid (p q0 = t) := hpq
        clear PP htk hpq
        go_wp2_with fail
        go_loopw [24] (fun i wr => ∃ j : Nat, j + 1 ≤ k ∧ i = .int .i64 j ∧ ∃ q, wr = W.drewN q) (fun i _ => k - (intOf i).toNat)
        case atStart => exact ⟨0, by omega, rfl, qd, rfl⟩
        case round =>
          obtain ⟨j, hj, rfl, qe, rfl⟩ := hrel
          by_cases hlt2 : j + 1 < k
          · obtain ⟨a, ha⟩ : ∃ a, a = tk + j := ⟨_, rfl⟩
            obtain ⟨v1, hv1⟩ : ∃ v, v = ps k at_ first q0 j := ⟨_, rfl⟩
            obtain ⟨v2, hv2⟩ : ∃ v, v = ps k at_ first q0 (j + 1) := ⟨_, rfl⟩
            have hv : v1 < v2 := by rw [hv1, hv2]; exact ps_mono
            have c1 := HPP.out j (by omega)
            have c2 := HPP.out (j + 1) hlt2
            rw [← hv1, ← ha] at c1
            rw [← hv2, show tk + (j + 1) = a + 1 by omega] at c2
            have e1 : IntKind.i64.wrap ((tk : Int) + (j : Int)) = (a : Int) := by rw [IntKind.wrap_i64]; omega
            have e2 : IntKind.i64.wrap ((a : Int) + 1) = (a : Int) + 1 := by rw [IntKind.wrap_i64]; omega
            have i1 : decide ((v2 : Int) ≤ (v1 : Int)) = false := decide_eq_false (by omega)
            have i2 : (a : Int) < (tot : Int) := by omega
            have i3 : (a : Int) + 1 < (tot : Int) := by omega
            clear ha hv1 hv2
            go_wp2_with fail
            go_quiet (fail)
            go_wp2_with fail
            go_roundw
            case rel => exact ⟨j + 1, by omega, by go_num, _, rfl⟩
            case measure => simp [intOf]; omega
          · obtain rfl : j = k - 1 := by omega
            have hlt3 : ¬ ((k - 1 : Nat) : Int) + 1 < (k : Int) := by omega
            by_cases hz : t = p 0
            · have hne : ((t : Int) != ((p 0 : Nat) : Int)) = false := by rw [hz]; simp
              go_wp2_with fail
              go_quiet (fail)
              go_wp2_with fail
              go_roundw
              case rel => exact ⟨t + 1, by omega, by rw [hz]; go_num, _, rfl⟩
              case measure => rw [← hz]; simp [intOf]; omega
            · have hne : ((t : Int) != ((p 0 : Nat) : Int)) = true := by rw [bne_iff_ne]; omega
              have hq1 : q0 ≠ 0 := by
                rintro rfl
                exact hz HPQ.out.symm
              obtain ⟨k1, hk1⟩ : ∃ k1, k = k1 + 1 := ⟨k - 1, by omega⟩
              obtain ⟨v1, hv1⟩ : ∃ v, v = ps k at_ first q0 0 := ⟨_, rfl⟩
              have hvr : ps k at_ first q0 k1 = v1 + k1 := by rw [hv1]; exact ps_run hq1 k1
              have hvb := PSB.out q0 0 hq0 (by omega)
              have hvb' : v1 < 256 := by rw [hv1]; exact hvb
              have c1 := HPP.out 0 (by omega)
              have c2 := HPP.out k1 (by omega)
              rw [← hv1, Nat.add_zero] at c1
              rw [hvr] at c2
              obtain ⟨a, ha⟩ : ∃ a, a = tk + k1 := ⟨_, rfl⟩
              obtain ⟨v2, hv2⟩ : ∃ v, v = v1 + k1 := ⟨_, rfl⟩
              rw [← ha, ← hv2] at c2
              have e3 : IntKind.i64.wrap ((tk : Int) + (k : Int)) = (a : Int) + 1 := by rw [IntKind.wrap_i64]; omega
              have e4 : IntKind.i64.wrap ((a : Int) + 1 - 1) = (a : Int) := by rw [IntKind.wrap_i64]; omega
              have e4' : IntKind.i64.wrap (a : Int) = (a : Int) := by rw [IntKind.wrap_i64]; omega
              have e5 : IntKind.i64.wrap ((v2 : Int) - (v1 : Int)) = (k1 : Int) := by rw [IntKind.wrap_i64]; omega
              have e6 : IntKind.i64.wrap ((k : Int) - 1) = (k1 : Int) := by rw [IntKind.wrap_i64]; omega
              have i1 : (a : Int) < (tot : Int) := by omega
              have i2 : (tk : Int) < (tot : Int) := by omega
              have HZ : Hid (¬ t = p 0) := hz
              clear ha hv1 hv2 hvr hvb hz hk1
              go_wp2_with fail
              go_quiet (fail)
              go_wp2_with fail
              go_roundw
              case rel => exact ⟨t + 1, by omega, by go_num, _, rfl⟩
              case measure => simp [intOf]; omega
      · go_wp2_with fail
        go_meet
        case rel => exact ⟨qd, rfl⟩
  case rest =>
    obtain ⟨q3, rfl⟩ := hcut
    go_wp2_with fail
    obtain ⟨wk, hwk⟩ : ∃ x, x = p 0 * k := ⟨_, rfl⟩
    obtain ⟨rk, hrk2⟩ : ∃ x, x = p 1 * k := ⟨_, rfl⟩
    have hwk1 : wk + k ≤ tot := by rw [hwk, HT.out]; exact mul_lt_of (prm.lt 0 (by omega))
    have hrk1 : rk + k ≤ tot := by rw [hrk2, HT.out]; exact mul_lt_of (prm.lt 1 (by omega))
    have ww : IntKind.i64.wrap (((p 0 : Nat) : Int) * (k : Int)) = (wk : Int) := by rw [← Int.natCast_mul, ← hwk, IntKind.wrap_i64]; omega
    have wr : IntKind.i64.wrap (((p 1 : Nat) : Int) * (k : Int)) = (rk : Int) := by rw [← Int.natCast_mul, ← hrk2, IntKind.wrap_i64]; omega
    have WC : ∀ j, j < k → W.cell? ⟨bps, wk + j, none⟩ = some (.int .i64 ((ps k at_ first 0 j : Nat) : Int)) := by
      intro j hj
      rw [POSC.out _ (by omega), hwk, HPOS.out 0 j (by omega) hj]
    have RC : ∀ j, j < k → W.cell? ⟨bps, rk + j, none⟩ = some (.int .i64 ((ps k at_ first 1 j : Nat) : Int)) := by
      intro j hj
      rw [POSC.out _ (by omega), hrk2, HPOS.out 1 j (by omega) hj]
    obtain ⟨A, hA⟩ : ∃ A, A = at_ * k := ⟨_, rfl⟩
    have hAb : A + 2 * k ≤ tot := by rw [hA, HT.out, ← Nat.add_mul]; exact Nat.mul_le_mul_right k (by omega)
    have psw : ∀ j, ps k at_ first 0 j = if j ≤ first then A + j else A + k + j := by intro j; unfold ps; rw [if_pos rfl, hA]
    have psr : ∀ j, ps k at_ first 1 j = A + (first + 1) + j := by intro j; unfold ps; rw [if_neg (by omega), if_pos rfl, hA]
    have HWC := (show Hid _ from WC)
    have HPSW := (show Hid _ from psw)
    have HWK : Hid (wk = p 0 * k) := hwk
    have HRK : Hid (rk = p 1 * k) := hrk2
    have r1 := RC 0 (by omega)
    obtain ⟨k1, hk1⟩ : ∃ k1, k = k1 + 1 := ⟨k - 1, by omega⟩
    have r2 := RC k1 (by omega)
    rw [psr] at r1 r2
    simp only [Nat.add_zero] at r1
    obtain ⟨rs, hrs⟩ : ∃ x, x = A + (first + 1) := ⟨_, rfl⟩
    obtain ⟨re, hre⟩ : ∃ x, x = A + (first + 1) + k1 := ⟨_, rfl⟩
    obtain ⟨ra, hra⟩ : ∃ x, x = rk + k1 := ⟨_, rfl⟩
    rw [← hrs] at r1
    rw [← hre, ← hra] at r2
    have e3 : IntKind.i64.wrap ((rk : Int) + (k : Int)) = (ra : Int) + 1 := by rw [IntKind.wrap_i64]; omega
    have e4 : IntKind.i64.wrap ((ra : Int) + 1 - 1) = (ra : Int) := by rw [IntKind.wrap_i64]; omega
    have e4' : IntKind.i64.wrap (ra : Int) = (ra : Int) := by rw [IntKind.wrap_i64]; omega
    have i1 : (rk : Int) < (tot : Int) := by omega
    have i2 : (ra : Int) < (tot : Int) := by omega
    have HRE : Hid (rs = A + (first + 1) ∧ re = A + (first + 1) + k1 ∧ k = k1 + 1) := ⟨hrs, hre, hk1⟩
    clear WC RC psw psr hA hwk hrk2 hk1 hrs hre hra
    go_quiet (fail)
    clear r1 r2 e3 e4 e4'
    go_upto_block 8 with fail
    go_cut [27, 28] from 210 to 211 (fun s27 _ wx => s27 = .int .i64 ((first + 1 : Nat) : Int) ∧ ∃ q, wx = W.drewN q)
    case first =>
      go_wp2_with fail
      go_loopw [27, 28] (fun c i wr => ∃ j : Nat, j ≤ k ∧ i = .int .i64 j ∧ c = .int .i64 ((min j (first + 1) : Nat) : Int) ∧ ∃ q, wr = W.drewN q) (fun _ i _ => k - (intOf i).toNat)
      case atStart => exact ⟨0, Nat.zero_le _, rfl, by simp, q3 + nq, World.drewN_drewN _ _ _⟩
      case round =>
        obtain ⟨j, hj, rfl, rfl, qe, rfl⟩ := hrel
        by_cases hlt : j < k
        · have c1 := HWC.out j hlt
          rw [HPSW.out] at c1
          obtain ⟨hr1, hr2, hr3⟩ := HRE.out
          by_cases hjf : j ≤ first
          · rw [if_pos hjf] at c1
            have h1 : ((A + j : Nat) : Int) < (rs : Int) := by omega
            obtain ⟨v, hv⟩ : ∃ v, v = A + j := ⟨_, rfl⟩
            rw [← hv] at c1 h1
            obtain ⟨mj, hmj⟩ : ∃ x, x = min j (first + 1) := ⟨_, rfl⟩
            have hmj2 : min (j + 1) (first + 1) = mj + 1 := by omega
            have hmb : mj ≤ 256 := by omega
            rw [← hmj]
            have HM : Hid (min (j + 1) (first + 1) = mj + 1) := hmj2
            clear hv hr1 hr2 hr3 hmj hmj2
            go_wp2_with fail
            go_roundw
            case rel => exact ⟨j + 1, by omega, by go_num, by rw [HM.out]; go_num, _, rfl⟩
            case measure => simp [intOf]; omega
          · rw [if_neg hjf] at c1
            have h1 : ¬ ((A + k + j : Nat) : Int) < (rs : Int) := by omega
            obtain ⟨v, hv⟩ : ∃ v, v = A + k + j := ⟨_, rfl⟩
            rw [← hv] at c1 h1
            obtain ⟨mj, hmj⟩ : ∃ x, x = min j (first + 1) := ⟨_, rfl⟩
            have hmj2 : min (j + 1) (first + 1) = mj := by omega
            have hmb : mj ≤ 256 := by omega
            rw [← hmj]
            have HM : Hid (min (j + 1) (first + 1) = mj) := hmj2
            clear hv hr1 hr2 hr3 hmj hmj2
            go_wp2_with fail
            go_roundw
            case rel => exact ⟨j + 1, by omega, by go_num, by rw [HM.out], _, rfl⟩
            case measure => simp [intOf]; omega
        · obtain rfl : j = k := by omega
          go_wp2_with fail
          go_meet
          case rel => exact ⟨by rw [Nat.min_eq_right (by omega)], _, rfl⟩
    case rest =>
      obtain ⟨rfl, q4, rfl⟩ := hcut
      refine ‹∀ (a : Act) (w : World), Code.wp Yba.prog _ _ a w → _› _ _ ?_
      exact tail19 hn hn' hk hk' hm' htb HT prm hfs hsk hrk hx ok HSP (L.grow (below_drewN (Below.refl _ _) _)) HWC HPSW HWK HRK hAb hwk1 hrk1 ww wr HRE
end Go.Proofs.Ybulkblde
