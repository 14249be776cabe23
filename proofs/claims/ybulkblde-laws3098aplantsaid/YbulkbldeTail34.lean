import Derived.Test.YbulkbldeNew
import Derived.Test.YbulkbldePlain
import Derived.Deep.CutBlock
import Derived.Test.YbulkbldeLawA
namespace Go.Proofs.Ybulkblde
open Go.RowKit
attribute [local go_sem ↓] Go.wp_at_zero Go.wp_at_succ hideEq


theorem cnt_w {wd a b id : Nat} (h : wd ≤ (if a < id then 1 else 0) + (if b < id then 1 else 0)) (e : id = a ∨ id = b) : wd + 1 ≤ (if a < id + 1 then 1 else 0) + (if b < id + 1 then 1 else 0) := by
  split at h <;> split at h <;> split <;> split <;> omega
theorem cnt_w0 {wd a b id : Nat} (h : wd ≤ (if a < id then 1 else 0) + (if b < id then 1 else 0)) : wd ≤ (if a < id + 1 then 1 else 0) + (if b < id + 1 then 1 else 0) := by
  split at h <;> split at h <;> split <;> split <;> omega
theorem cnt_r {rd a id : Nat} (h : rd ≤ (if a < id then 1 else 0)) (e : id = a) : rd + 1 ≤ (if a < id + 1 then 1 else 0) := by
  split at h <;> split <;> omega
theorem cnt_r0 {rd a id : Nat} (h : rd ≤ (if a < id then 1 else 0)) : rd ≤ (if a < id + 1 then 1 else 0) := by
  split at h <;> split <;> omega
/-- Where the planted steps differ from the old ones. -/
theorem diff_cases {s : Nat → St} {k tot m wt rt first second read x wk rk : Nat} (hk : 0 < k) (hf : first < k) (hs : second < k) (hr : read < k) (hne : wt ≠ rt)
    (ok : ∀ id, id < tot → ((s id).act = 1 ∨ (s id).act = 2) ∧ (s id).txn = id / k + 1 ∧ (s id).it < m) (hwk : wk = wt * k) (hrk : rk = rt * k) (id : Nat) (hid : id < tot)
    (h : plS s k wt rt first second read x id ≠ s id) :
    (id / k = wt ∧ (id = wk + first ∨ id = wk + second) ∧ plS s k wt rt first second read x id = ⟨2, wt + 1, x⟩) ∨
    (id / k = rt ∧ (plS s k wt rt first second read x id).act = 1 ∧ (plS s k wt rt first second read x id).txn = rt + 1 ∧ ((plS s k wt rt first second read x id).it ≠ (s id).it → id = rk + read)) := by
  have hj : id % k < k := Nat.mod_lt _ hk
  have e : id = id / k * k + id % k := by rw [Nat.mul_comm]; exact (Nat.div_add_mod id k).symm
  obtain ⟨t, ht⟩ : ∃ t, t = id / k := ⟨_, rfl⟩
  obtain ⟨j, hj'⟩ : ∃ j, j = id % k := ⟨_, rfl⟩
  have o2 := (ok id hid).2.1
  rw [← ht] at o2 e ⊢
  rw [← hj'] at e hj
  subst e
  subst hwk hrk
  by_cases e1 : t = wt
  · subst e1
    rw [plS_w hf hs hr hne hj] at h ⊢
    by_cases e2 : j = first ∨ j = second
    · rw [if_pos e2] at h ⊢
      exact Or.inl ⟨rfl, by omega, rfl⟩
    · rw [if_neg e2] at h; exact absurd rfl h
  · by_cases e2 : t = rt
    · subst e2
      right
      rw [plS_r hf hs hne hj] at h ⊢
      by_cases e3 : j = read
      · rw [if_pos e3]
        exact ⟨rfl, rfl, rfl, fun _ => by omega⟩
      · rw [if_neg e3] at h ⊢
        by_cases e4 : j < read ∧ (s (t * k + j)).it = x
        · rw [if_pos e4]
          exact ⟨rfl, rfl, o2, fun h => absurd rfl h⟩
        · rw [if_neg e4] at h; exact absurd rfl h
    · rw [plS_other hf hs hr hj e1 e2] at h; exact absurd rfl h

theorem new_cell {w : World} {b i : Nat} {cs : Array Value} {t : TypeId} {v : Value} (hb : b = w.heap.size) (h : cs[i]? = some v) : (w.alloc (.cells cs t)).cell? ⟨b, i, none⟩ = some v := by
  subst hb; rw [cell_whole (Go.Deep.blk_alloc_new _ _)]; exact h
structure Laid (wr : World) (a b : St) (c1 c2 : Nat) (wx : World) : Prop where
  bel : Below wr.heap.size wr wx
  n1 : wr.heap.size ≤ c1
  n2 : wr.heap.size ≤ c2
  a1 : wx.cell? ⟨c1, 0, none⟩ = some (.int .u8 a.act)
  a2 : wx.cell? ⟨c1, 1, none⟩ = some (.int .i64 a.txn)
  a3 : wx.cell? ⟨c1, 2, none⟩ = some (.string (itm a.it))
  b1 : wx.cell? ⟨c2, 0, none⟩ = some (.int .u8 b.act)
  b2 : wx.cell? ⟨c2, 1, none⟩ = some (.int .i64 b.txn)
  b3 : wx.cell? ⟨c2, 2, none⟩ = some (.string (itm b.it))

theorem laid1 (wr : World) (a b : St) : Laid wr a b wr.heap.size (wr.heap.size + 1) ((wr.alloc (.cells #[.int .u8 a.act, .int .i64 a.txn, .string (itm a.it)] 32)).alloc (.cells #[.int .u8 b.act, .int .i64 b.txn, .string (itm b.it)] 32)).drew :=
  ⟨(((Below.refl _ _).alloc (Nat.le_refl _) _).alloc (by simp) _).drew, Nat.le_refl _, Nat.le_succ _,
    keepD (keepA _ (by rw [cell_whole (Go.Deep.blk_alloc_new _ _)]; rfl)), keepD (keepA _ (by rw [cell_whole (Go.Deep.blk_alloc_new _ _)]; rfl)), keepD (keepA _ (by rw [cell_whole (Go.Deep.blk_alloc_new _ _)]; rfl)),
    keepD (new_cell (by simp) rfl), keepD (new_cell (by simp) rfl), keepD (new_cell (by simp) rfl)⟩
theorem laid2 (wr : World) (a b : St) : Laid wr a b (wr.heap.size + 1) wr.heap.size ((wr.alloc (.cells #[.int .u8 b.act, .int .i64 b.txn, .string (itm b.it)] 32)).alloc (.cells #[.int .u8 a.act, .int .i64 a.txn, .string (itm a.it)] 32)).drew :=
  ⟨(((Below.refl _ _).alloc (Nat.le_refl _) _).alloc (by simp) _).drew, Nat.le_succ _, Nat.le_refl _,
    keepD (new_cell (by simp) rfl), keepD (new_cell (by simp) rfl), keepD (new_cell (by simp) rfl),
    keepD (keepA _ (by rw [cell_whole (Go.Deep.blk_alloc_new _ _)]; rfl)), keepD (keepA _ (by rw [cell_whole (Go.Deep.blk_alloc_new _ _)]; rfl)), keepD (keepA _ (by rw [cell_whole (Go.Deep.blk_alloc_new _ _)]; rfl))⟩

set_option maxRecDepth 1000000 in
set_option maxHeartbeats 20000000 in
theorem tail34 {w W : World} {n k m tot : Nat} {p : Nat → Nat} {s sP : Nat → St} {g : Nat → Nat} {bi g1 g2 cap1 first second read x wk rk bx : Nat}
    (hn : 2 ≤ n) (hn' : n ≤ 16) (hk : 2 ≤ k) (hk' : k ≤ 16) (hm' : m ≤ 26) (htb : tot ≤ 256) (HT : Hid (tot = n * k)) (prm : Prm n p) (hfs : first < second) (hsk : second < k) (hrk : read < k) (hx : x < m)
    (ok : Hid (∀ id, id < tot → ((s id).act = 1 ∨ (s id).act = 2) ∧ (s id).txn = id / k + 1 ∧ (s id).it < m))
    (HSP : Hid (sP = plS s k (p 0) (p 1) first second read x)) (L : LSt w n tot p s sP g bi g1 g2 W) (hbx : bx < W.heap.size)
    (bx0 : W.cell? ⟨bx, 0, none⟩ = some (.int .u8 2)) (bx1 : W.cell? ⟨bx, 1, none⟩ = some (.int .i64 ((p 0 + 1 : Nat) : Int))) (bx2 : W.cell? ⟨bx, 2, none⟩ = some (.string (itm x)))
    (HWK : Hid (wk = p 0 * k)) (HRK : Hid (rk = p 1 * k)) (hwk1 : wk + k ≤ tot) (hrk1 : rk + k ≤ tot) 
    {y0 y1 y2 y3 y4 y5 y6 y7 y8 y14 y15 y19 y20 y21 y22 y23 y24 y25 y26 y27 y28 y32 y33 y34 y37 y38 y39 y40 y41 y42 y43 y44 y45 y46 y47 y48 y49 y50 y51 y52 y53 y54 y55 y56 y57 y58 y59 y60 y61 y62 y63 y64 y65 y66 y67 y68 y69 y70 y71 y72 y73 y74 y75 y76 y77 y78 y79 y80 y81 y82 y83 y84 y85 y86 y87 y88 y89 y90 y91 y92 y93 y94 y95 y96 y97 y98 y99 y100 y101 y102 y103 y104 y105 y106 y107 y108 y109 y110 y111 y112 y113 y114 y115 y116 y117 y118 y119 y120 y121 y122 y123 y124 y125 y126 y127 y128 y129 y130 y131 y132 y133 y134 y135 y136 y137 y138 y139 y140 y141 y142 y143 y144 y145 y146 y147 y148 y149 y150 y151 y152 y153 y154 y155 y156 y157 y158 y159 y160 y161 y162 y163 y164 y165 y166 y167 y168 y169 y170 y171 y172 y173 y174 y175 y176 y177 y178 y179 y180 y181 y182 y183 y184 y185 y186 y187 y188 y189 y190 y191 y192 y193 y194 y195 y196 y197 y198 y199 y200 y201 y202 y203 y204 y205 y206 y207 y208 y209 y210 y211 y212 y213 y214 y215 y216 y217 y218 y219 y220 y221 y222 y223 y224 y225 y226 y227 y228 y229 y230 y231 y232 y233 y234 y235 y236 y237 y238 y239 y240 y241 y242 y243 y244 y245 y246 y247 y248 y249 y250 y251 y252 y253 y254 y255 y256 y257 y258 y259 y260 y261 y262 y263 y264 y265 y266 y267 y268 y269 y270 y271 y272 y273 y274 y275 y276 y277 y278 y279 y280 y281 y282 y283 y284 y285 y286 y287 y288 y289 y290 y291 y292 y293 y294 y295 y296 y297 y298 y299 y300 y301 y302 y303 y304 y305 y306 y307 y308 y309 y310 y311 y312 y313 y314 y315 y316 y317 y318 y319 y320 y321 y322 y323 y324 y325 y326 y327 y328 y329 y330 y331 y332 y333 y334 y335 y336 y337 y338 y339 y340 y341 y342 y343 y344 y345 y346 y347 y348 y349 y350 y351 y352 y353 y354 y355 y356 y357 y358 y359 y360 y361 y362 y363 y364 y365 y366 y367 y368 y369 y370 y371 y372 y373 y374 y375 y376 y377 y378 y379 y380 y381 y382 y383 y384 y385 y386 y387 y388 y389 y390 y391 y392 y393 y394 y395 y396 y397 y398 y399 y400 y401 y402 y403 y404 y405 y406 y407 y408 y409 y410 y411 y412 y413 y414 y415 y416 y417 y418 y419 y420 y421 y422 y423 y424 y425 y426 y427 y428 y429 y430 y431 y432 y433 y434 y435 y436 y437 y438 y439 y440 y441 y442 y443 y444 y445 y446 y447 y448 y449 y450 y451 y452 y453 y454 y455 y456 y457 y458 y459 y460 y461 y462 y463 y464 y465 : Value} :
    Code.wp Yba.prog (tl 34 (Yba.f3.body.getD .skip)) (bodyPost Yba.prog Yba.f3 fun e w' => e = .returned (.bool true) ∧ Below w.heap.size w w') ⟨#[y0, y1, y2, y3, y4, y5, y6, y7, y8, .int .i64 (n : Int), .int .i64 (k : Int), .int .i64 (m : Int), .pointer (some ⟨w.heap.size + 2, 0, none⟩), .slice (some ⟨g1, 0, none⟩) tot cap1, y14, y15, .int .i64 ((p 0 : Nat) : Int), .int .i64 ((p 1 : Nat) : Int), .int .i64 (tot : Int), y19, y20, y21, y22, y23, y24, y25, y26, y27, y28, .int .i64 (first : Int), .string (itm x), .pointer (some ⟨bx, 0, none⟩), y32, y33, y34, .int .i64 0, .int .i64 0, y37, y38, y39, y40, y41, y42, y43, y44, y45, y46, y47, y48, y49, y50, y51, y52, y53, y54, y55, y56, y57, y58, y59, y60, y61, y62, y63, y64, y65, y66, y67, y68, y69, y70, y71, y72, y73, y74, y75, y76, y77, y78, y79, y80, y81, y82, y83, y84, y85, y86, y87, y88, y89, y90, y91, y92, y93, y94, y95, y96, y97, y98, y99, y100, y101, y102, y103, y104, y105, y106, y107, y108, y109, y110, y111, y112, y113, y114, y115, y116, y117, y118, y119, y120, y121, y122, y123, y124, y125, y126, y127, y128, y129, y130, y131, y132, y133, y134, y135, y136, y137, y138, y139, y140, y141, y142, y143, y144, y145, y146, y147, y148, y149, y150, y151, y152, y153, y154, y155, y156, y157, y158, y159, y160, y161, y162, y163, y164, y165, y166, y167, y168, y169, y170, y171, y172, y173, y174, y175, y176, y177, y178, y179, y180, y181, y182, y183, y184, y185, y186, y187, y188, y189, y190, y191, y192, y193, y194, y195, y196, y197, y198, y199, y200, y201, y202, y203, y204, y205, y206, y207, y208, y209, y210, y211, y212, y213, y214, y215, y216, y217, y218, y219, y220, y221, y222, y223, y224, y225, y226, y227, y228, y229, y230, y231, y232, y233, y234, y235, y236, y237, y238, y239, y240, y241, y242, y243, y244, y245, y246, y247, y248, y249, y250, y251, y252, y253, y254, y255, y256, y257, y258, y259, y260, y261, y262, y263, y264, y265, y266, y267, y268, y269, y270, y271, y272, y273, y274, y275, y276, y277, y278, y279, y280, y281, y282, y283, y284, y285, y286, y287, y288, y289, y290, y291, y292, y293, y294, y295, y296, y297, y298, y299, y300, y301, y302, y303, y304, y305, y306, y307, y308, y309, y310, y311, y312, y313, y314, y315, y316, y317, y318, y319, y320, y321, y322, y323, y324, y325, y326, y327, y328, y329, y330, y331, y332, y333, y334, y335, y336, y337, y338, y339, y340, y341, y342, y343, y344, y345, y346, y347, y348, y349, y350, y351, y352, y353, y354, y355, y356, y357, y358, y359, y360, y361, y362, y363, y364, y365, y366, y367, y368, y369, y370, y371, y372, y373, y374, y375, y376, y377, y378, y379, y380, y381, y382, y383, y384, y385, y386, y387, y388, y389, y390, y391, y392, y393, y394, y395, y396, y397, y398, y399, y400, y401, y402, y403, y404, y405, y406, y407, y408, y409, y410, y411, y412, y413, y414, y415, y416, y417, y418, y419, y420, y421, y422, y423, y424, y425, y426, y427, y428, y429, y430, y431, y432, y433, y434, y435, y436, y437, y438, y439, y440, y441, y442, y443, y444, y445, y446, y447, y448, y449, y450, y451, y452, y453, y454, y455, y456, y457, y458, y459, y460, y461, y462, y463, y464, y465], []⟩ W := by
  conv => arg 2; whnf
  have hp0 := prm.lt 0 (by omega)
  have hp1 := prm.lt 1 (by omega)
  have hpne : p 0 ≠ p 1 := fun h => by have := prm.inj 0 1 (by omega) (by omega) h; omega
  go_upto_block 14 with fail
  go_wp2_with fail
  go_loopw [35, 36, 37] (fun a b i wr => ∃ id wd rd : Nat, id ≤ tot ∧ a = .int .i64 wd ∧ b = .int .i64 rd ∧ i = .int .i64 id ∧ wd ≤ (if wk + first < id then 1 else 0) + (if wk + second < id then 1 else 0) ∧ rd ≤ (if rk + read < id then 1 else 0) ∧ Below W.heap.size W wr) (fun _ _ i _ => tot - (intOf i).toNat)
  case atStart => exact ⟨0, 0, 0, by omega, rfl, rfl, by go_num, by omega, by omega, Below.refl _ _⟩
  case round =>
    obtain ⟨id, wd, rd, hid, rfl, rfl, rfl, hwd, hrd, bw⟩ := hrel
    by_cases hlt : id < tot
    · have Lr := L.grow bw
      have hsW := bw.size
      have x4 := Lr.gs
      have s1 := Lr.st (id * 3) (by omega)
      have s2 := Lr.st (id * 3 + 1) (by omega)
      have s3 := Lr.st (id * 3 + 2) (by omega)
      have b1 := Lr.be (id * 3) (by omega)
      have b2 := Lr.be (id * 3 + 1) (by omega)
      have b3 := Lr.be (id * 3 + 2) (by omega)
      rw [stc0] at s1 b1
      rw [stc1] at s2 b2
      rw [stc2] at s3 b3
      obtain ⟨t, ht⟩ : ∃ t, t = id / k := ⟨_, rfl⟩
      have htl : t ≤ id := by rw [ht]; exact Nat.div_le_self _ _
      have et : IntKind.i64.wrap ((id : Int) / (k : Int)) = (t : Int) := by
        rw [← Int.natCast_ediv, ← ht]; exact wrapI _ (by omega) (by omega)
      have HTD : Hid (t = id / k) := ht
      clear ht
      go_upto_region 75 with fail
      have hg1 := Lr.l1
      have hg0 := Lr.sz
      go_cut [39, 40] from 428 to 429 (fun s39 s40 wx => ∃ c1 c2, s39 = .pointer (some ⟨c1, 0, none⟩) ∧ s40 = .pointer (some ⟨c2, 0, none⟩) ∧ Laid wr (sP id) (s id) c1 c2 wx)
      case first =>
        go_region_held3 (fun w' => w'.cell? ⟨w.heap.size + 2, 4, none⟩ = some (.slice (some ⟨w.heap.size + 3, 0, none⟩) tot tot) ∧ w'.cell? ⟨w.heap.size + 3, id * 3, none⟩ = some (.int .u8 (sP id).act) ∧ w'.cell? ⟨w.heap.size + 3, id * 3 + 1, none⟩ = some (.int .i64 (sP id).txn) ∧ w'.cell? ⟨w.heap.size + 3, id * 3 + 2, none⟩ = some (.string (itm (sP id).it)) ∧ w'.cell? ⟨g1, id * 3, none⟩ = some (.int .u8 (s id).act) ∧ w'.cell? ⟨g1, id * 3 + 1, none⟩ = some (.int .i64 (s id).txn) ∧ w'.cell? ⟨g1, id * 3 + 2, none⟩ = some (.string (itm (s id).it)))
          (refine ⟨?_, ?_, ?_, ?_, ?_, ?_, ?_⟩ <;> (repeat' (first | assumption | apply keepD | apply keepA | (refine keepS _ _ ?_ (by simp; omega))))) (fail)
        · go_wp2_with fail
          go_meet
          case rel => exact ⟨_, _, rfl, rfl, laid1 _ _ _⟩
        · go_wp2_with fail
          go_meet
          case rel => exact ⟨_, _, rfl, rfl, laid2 _ _ _⟩
      case rest =>
        obtain ⟨c1, c2, rfl, rfl, Y⟩ := hcut
        clear x4 s1 s2 s3 b1 b2 b3 et
        have bc : Below W.heap.size W wc := bw.trans (Y.bel.mono hsW)
        have z1 := Y.a1
        have z2 := Y.a2
        have z3 := Y.a3
        have z4 := Y.b1
        have z5 := Y.b2
        have z6 := Y.b3
        have v0 := bc.cell (p := ⟨bx, 0, none⟩) hbx |>.trans bx0
        have v1 := bc.cell (p := ⟨bx, 1, none⟩) hbx |>.trans bx1
        have v2 := bc.cell (p := ⟨bx, 2, none⟩) hbx |>.trans bx2
        clear bx0 bx1 bx2
        have hi26 : (sP id).it < 26 := by have := (ok.out id hlt).2.2; rw [HSP.out]; exact Nat.lt_of_lt_of_le (plS_it hx _ this) hm'
        have hi27 : (s id).it < 26 := Nat.lt_of_lt_of_le (ok.out id hlt).2.2 hm'
        have hq := fun v => run_stq (sP id) (s id) hi26 hi27 v
        have hwd2 : wd ≤ 2 := by have h := hwd; split at h <;> split at h <;> omega
        have hrd2 : rd ≤ 1 := by have h := hrd; split at h <;> omega
        cases hst : stq (sP id) (s id)
        · rw [hst] at hq
          have hne := stq_false hst
          rw [HSP.out] at hne
          have hdc := diff_cases (by omega) (by omega) hsk hrk hpne ok.out HWK.out HRK.out id hlt hne
          rw [← HSP.out, ← HTD.out] at hdc
          clear hne hst
          rcases hdc with ⟨ht, hid2, hsP⟩ | ⟨ht, ha, htx, hit⟩
          · rw [hsP] at z1 z2 z3 hq
            dsimp only at z1 z2 z3 hq
            rw [Int.natCast_add, Int.cast_ofNat_Int, Int.cast_ofNat_Int] at hq
            have g1' : ((t : Int) == ((p 0 : Nat) : Int)) = true := by rw [beq_iff_eq]; omega
            have HID : Hid (id = wk + first ∨ id = wk + second) := hid2
            have HWD : Hid (wd ≤ (if wk + first < id then 1 else 0) + (if wk + second < id then 1 else 0)) := hwd
            have HRD : Hid (rd ≤ (if rk + read < id then 1 else 0)) := hrd
            clear ht hid2 hwd hrd hsP
            go_wp2_with fail
            exact ⟨⟨id + 1, wd + 1, rd, by omega, by go_num, rfl, by go_num, cnt_w HWD.out HID.out, cnt_r0 HRD.out, bc⟩, by show tot - ((id : Int) + 1).toNat < tot - ((id : Int)).toNat; omega⟩
          · have g1' : ((t : Int) == ((p 0 : Nat) : Int)) = false := by rw [beq_eq_false_iff_ne]; omega
            have g2' : ((t : Int) == ((p 1 : Nat) : Int)) = true := by rw [beq_iff_eq]; omega
            rw [ha] at z1 hq
            rw [htx] at z2 hq
            rw [Int.natCast_add, Int.cast_ofNat_Int] at hq
            have q1 := itm_eq (sP id).it (s id).it hi26 hi27
            have HWD : Hid (wd ≤ (if wk + first < id then 1 else 0) + (if wk + second < id then 1 else 0)) := hwd
            have HRD : Hid (rd ≤ (if rk + read < id then 1 else 0)) := hrd
            have HIT : Hid ((sP id).it ≠ (s id).it → id = rk + read) := hit
            clear ht hwd hrd ha htx hit
            by_cases hie : (sP id).it = (s id).it
            · rw [decide_eq_true hie] at q1
              clear hie
              go_wp2_with fail
              exact ⟨⟨id + 1, wd, rd, by omega, rfl, rfl, by go_num, cnt_w0 HWD.out, cnt_r0 HRD.out, bc⟩, by show tot - ((id : Int) + 1).toNat < tot - ((id : Int)).toNat; omega⟩
            · rw [decide_eq_false hie] at q1
              have hir : Hid (id = rk + read) := HIT.out hie
              clear hie
              go_wp2_with fail
              exact ⟨⟨id + 1, wd, rd + 1, by omega, rfl, by go_num, by go_num, cnt_w0 HWD.out, cnt_r HRD.out hir.out, bc⟩, by show tot - ((id : Int) + 1).toNat < tot - ((id : Int)).toNat; omega⟩
        · rw [hst] at hq
          have HWD : Hid (wd ≤ (if wk + first < id then 1 else 0) + (if wk + second < id then 1 else 0)) := hwd
          have HRD : Hid (rd ≤ (if rk + read < id then 1 else 0)) := hrd
          clear hst hwd hrd
          go_wp2_with fail
          exact ⟨⟨id + 1, wd, rd, by omega, rfl, rfl, by go_num, cnt_w0 HWD.out, cnt_r0 HRD.out, bc⟩, by show tot - ((id : Int) + 1).toNat < tot - ((id : Int)).toNat; omega⟩
    · have hjk : id = tot := by omega
      subst hjk
      have hw2 : ((wd : Int) ≤ 2) := by have h := hwd; split at h <;> split at h <;> omega
      have hr2 : ((rd : Int) ≤ 1) := by have h := hrd; split at h <;> omega
      have HW : Hid (wd ≤ (if wk + first < id then 1 else 0) + (if wk + second < id then 1 else 0)) := hwd
      clear hwd hrd
      have hbl : Below w.heap.size w wr := L.bel.trans (bw.mono (by have := L.sz; omega))
      go_wp2_with fail
      go_ret
      exact ⟨rfl, hbl⟩
end Go.Proofs.Ybulkblde
