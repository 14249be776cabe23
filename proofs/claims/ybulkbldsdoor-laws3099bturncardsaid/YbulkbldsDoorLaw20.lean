import Derived.Test.YbulkbldsDoorTurn
import Derived.LaidEqlPtr
import Derived.Deep.CutBlock
import Derived.Deep.DeepCutAuto
namespace Go.Proofs.YbulkbldsDoor
open Go.RowKit

theorem ptrNeq (a : Addr) (w : World) : (binOp .neq 46 (.pointer (some a)) (.pointer (some a))).run Ybad.prog w = .ok (.bool false) w := by
  have h2 : (Ybad.prog.info? 83).isSome = true := by kernel_rfl
  obtain ⟨j, hj⟩ := Option.isSome_iff_exists.1 h2
  have h : ∀ d : Nat, (Op.equalIn (d + 1) 46 (.pointer (some a)) (.pointer (some a))).run Ybad.prog w = .ok true w := fun d => by
    simp [Op.equalIn, run_underlying Ybad.underlying46, typeInfo, sizeOf, run_sameAddr_same, hj]
  simp only [binOp]
  simp [Op.equal, Op.maxDepth, h 9999]

set_option maxRecDepth 1000000 in
set_option maxHeartbeats 20000000 in
theorem law20 {w0 W : World} {A bT bd bc bm n pl k nx gw gm gs cw cm cs : Nat} {dn tn : Int} {tc bf : Nat → Value} {L : List Mv} {m : Mv}
    (bel : Below A w0 W) (hAW : A ≤ W.heap.size) (hn : n ≤ 8) (hpl : pl < n) (hk : k ≤ 255) (hL0 : 0 < L.length) (hL1 : L.length ≤ 40) (hm : L[k % L.length]? = some m) (HNX : Hid (nx = (pl + 1) % n))
    (T : W.rowIs bT 83 87 tc) (t5 : tc 5 = .slice (some ⟨gm, 0, none⟩) L.length cm) (t72 : tc 72 = .slice (some ⟨bd, 0, none⟩) n n) (t78 : tc 78 = .int .i64 (IntKind.i64.wrap (tn + 1))) (t82 : tc 82 = .int .i64 (nx : Int)) (t84 : tc 84 = .int .i64 (IntKind.i64.wrap (dn + 1)))
    (D : W.rowIs bd 41 (n * 2) (updf (updf bf (pl * 2) (.int .i8 (m.1 : Int))) (pl * 2 + 1) (.bool m.2))) (hbf : ∀ i, bf (i * 2) = .int .i8 3 ∧ bf (i * 2 + 1) = .bool true)
    (C : W.rowIs bc 48 5 (chc k 1 pl (.slice (some ⟨gs, 0, none⟩) L.length cs) (.pointer (some ⟨bT, 0, none⟩))))
    (om : ∀ j u, (mvCells L)[j]? = some u → W.cell? ⟨gm, j, none⟩ = some u) (os : ∀ j u, (mvCells L)[j]? = some u → W.cell? ⟨gs, j, none⟩ = some u) (ow : ∀ j u, (mvCells L)[j]? = some u → W.cell? ⟨gw, j, none⟩ = some u)
    (m0 : W.cell? ⟨bm, 0, none⟩ = some (.int .i8 3)) (m1 : W.cell? ⟨bm, 1, none⟩ = some (.bool true))
    {y0 y1 y2 y3 y4 y5 y9 y10 y11 y12 y13 y14 y15 y16 y17 y18 y21 y22 y23 y24 y26 y27 y31 y32 y34 y35 y36 y37 y38 y39 y40 y41 y42 y43 y44 y45 y46 y47 y48 y49 y50 y51 y52 y53 y54 y55 y56 y57 y58 y59 y60 y61 y62 y63 y64 y65 y66 y67 y68 y69 y70 y71 y72 y73 y74 y75 y76 y77 y78 y79 y80 y81 y82 y83 y84 y85 y86 y87 y88 y89 y90 y91 y92 y93 y94 y95 y96 y97 y98 y99 y100 y101 y102 y103 y104 y105 y106 y107 y108 y109 y110 y111 y112 y113 y114 y115 y116 y117 y118 y119 y120 y121 y122 y123 y124 y125 y126 y127 y128 y129 y130 y131 y132 y133 y134 y135 y136 y137 y138 y139 y140 y141 y142 y143 y144 y145 y146 y147 y148 y149 y150 y151 y152 y153 y154 y155 y156 y157 y158 y159 y160 y161 y162 y163 y164 y165 y166 y167 y168 y169 y170 y171 y172 y173 y174 y175 y176 y177 y178 y179 y180 y181 y182 y183 y184 y185 y186 y187 y188 y189 y190 y191 y192 y193 y194 y195 y196 y197 y198 y199 y200 y201 y202 y203 y204 y205 y206 y207 y208 y209 y210 y211 y212 y213 y214 y215 y216 y217 y218 y219 y220 y221 y222 y223 y224 y225 y226 y227 y228 y229 y230 y231 y232 y233 y234 y235 y236 y237 y238 y239 y240 y241 y242 y243 y244 y245 y246 y247 y248 y249 y250 y251 y252 y253 y254 y255 y256 y257 y258 y259 y260 : Value} :
    Code.wp Ybad.prog (tlM 20 (Ybad.f6.body.getD .skip)) (bodyPost Ybad.prog Ybad.f6 fun e w' => e = .returned (.bool true) ∧ Below A w0 w') ⟨#[y0, y1, y2, y3, y4, y5, .int .u8 (k : Int), .int .i64 dn, .int .i64 tn, y9, y10, y11, y12, y13, y14, y15, y16, y17, y18, .int .i64 (n : Int), .int .i64 (pl : Int), y21, y22, y23, y24, .slice (some ⟨gw, 0, none⟩) L.length cw, y26, y27, .pointer (some ⟨bm, 0, none⟩), .pointer (some ⟨bc, 0, none⟩), .pointer (some ⟨bT, 0, none⟩), y31, y32, .bool (IntKind.i64.wrap (dn + 1) == (n : Int)), y34, y35, y36, y37, y38, y39, y40, y41, y42, y43, y44, y45, y46, y47, y48, y49, y50, y51, y52, y53, y54, y55, y56, y57, y58, y59, y60, y61, y62, y63, y64, y65, y66, y67, y68, y69, y70, y71, y72, y73, y74, y75, y76, y77, y78, y79, y80, y81, y82, y83, y84, y85, y86, y87, y88, y89, y90, y91, y92, y93, y94, y95, y96, y97, y98, y99, y100, y101, y102, y103, y104, y105, y106, y107, y108, y109, y110, y111, y112, y113, y114, y115, y116, y117, y118, y119, y120, y121, y122, y123, y124, y125, y126, y127, y128, y129, y130, y131, y132, y133, y134, y135, y136, y137, y138, y139, y140, y141, y142, y143, y144, y145, y146, y147, y148, y149, y150, y151, y152, y153, y154, y155, y156, y157, y158, y159, y160, y161, y162, y163, y164, y165, y166, y167, y168, y169, y170, y171, y172, y173, y174, y175, y176, y177, y178, y179, y180, y181, y182, y183, y184, y185, y186, y187, y188, y189, y190, y191, y192, y193, y194, y195, y196, y197, y198, y199, y200, y201, y202, y203, y204, y205, y206, y207, y208, y209, y210, y211, y212, y213, y214, y215, y216, y217, y218, y219, y220, y221, y222, y223, y224, y225, y226, y227, y228, y229, y230, y231, y232, y233, y234, y235, y236, y237, y238, y239, y240, y241, y242, y243, y244, y245, y246, y247, y248, y249, y250, y251, y252, y253, y254, y255, y256, y257, y258, y259, y260], []⟩ W := by
  conv => arg 2; whnf
  have c1 : W.cell? ⟨bc, 1, none⟩ = some (.int .i64 1) := C.cell (by omega)
  have c2 : W.cell? ⟨bc, 2, none⟩ = some (.int .i64 pl) := C.cell (by omega)
  have c3 : W.cell? ⟨bc, 3, none⟩ = some (.slice (some ⟨gs, 0, none⟩) L.length cs) := C.cell (by omega)
  have c4 : W.cell? ⟨bc, 4, none⟩ = some (.pointer (some ⟨bT, 0, none⟩)) := C.cell (by omega)
  have v5 : W.cell? ⟨bT, 5, none⟩ = some (.slice (some ⟨gm, 0, none⟩) L.length cm) := (T.cell (by omega)).trans (congrArg some t5)
  have HT := (show Hid _ from T)
  have HD := (show Hid _ from D)
  have HOm := (show Hid _ from om)
  have HOs := (show Hid _ from os)
  have HOw := (show Hid _ from ow)
  have Hbf := (show Hid _ from hbf)
  have Hm := (show Hid _ from hm)
  have Hbel := (show Hid _ from bel)
  clear T D om os ow hbf hm C bel
  obtain ⟨D', hD'⟩ : ∃ D', IntKind.i64.wrap (dn + 1) = D' := ⟨_, rfl⟩
  obtain ⟨T', hT'⟩ : ∃ T', IntKind.i64.wrap (tn + 1) = T' := ⟨_, rfl⟩
  rw [hD'] at t84 ⊢
  rw [hT'] at t78
  have hpq := ptrNeq ⟨bT, 0, none⟩
  obtain ⟨r, hr⟩ : ∃ r, r = k % L.length := ⟨_, rfl⟩
  have hrl : r < L.length := by rw [hr]; exact Nat.mod_lt _ hL0
  have hm' := Hm.out
  rw [← hr] at hm'
  obtain ⟨_, e2, e3⟩ := mv_at L r m hm'
  have w2 := HOw.out _ _ e2
  have w3 := HOw.out _ _ e3
  have hmod : (k : Int) % (L.length : Int) = (r : Int) := by rw [hr]; exact (Int.natCast_emod _ _).symm
  have hLp : ¬ (L.length : Int) = 0 := by omega
  have hrL : (r : Int) < (L.length : Int) := by omega
  obtain ⟨mt, mb⟩ := m
  dsimp only at w2 w3
  clear hr hm' e2 e3
  have E1 := equalM_any gs gw cs cw L W (by omega) HOs.out HOw.out
  obtain ⟨N, hN⟩ : ∃ N, N = L.length := ⟨_, rfl⟩
  have HN : Hid (N = L.length) := hN
  rw [← hN] at c3 v5 hmod hLp hrL E1 ⊢
  clear hN
  go_wp2_with fail
  refine E1.mono ?_
  rintro e w1 ⟨rfl, q1, rfl⟩
  have E2 := equalM_any gm gw cm cw L (W.drewN q1) (by omega) HOm.out HOw.out
  rw [← HN.out] at E2
  clear E1
  go_wp2_with fail
  refine E2.mono ?_
  rintro e w1 ⟨rfl, q2, rfl⟩
  clear E2
  obtain ⟨W2, hW2⟩ : ∃ X, X = (W.drewN q1).drewN q2 := ⟨_, rfl⟩
  rw [← hW2]
  have T2 : W2.rowIs bT 83 87 tc := by rw [hW2]; exact HT.out
  have D2 : W2.rowIs bd 41 (n * 2) (updf (updf bf (pl * 2) (.int .i8 (mt : Int))) (pl * 2 + 1) (.bool mb)) := by rw [hW2]; exact HD.out
  have w2' : W2.cell? ⟨gw, r * 3 + 1, none⟩ = some (.int .i8 (mt : Int)) := by rw [hW2]; exact w2
  have w3' : W2.cell? ⟨gw, r * 3 + 2, none⟩ = some (.bool mb) := by rw [hW2]; exact w3
  have m0' : W2.cell? ⟨bm, 0, none⟩ = some (.int .i8 3) := by rw [hW2]; exact m0
  have m1' : W2.cell? ⟨bm, 1, none⟩ = some (.bool true) := by rw [hW2]; exact m1
  have B2 : Below A w0 W2 := by rw [hW2]; exact ⟨Hbel.out.os, Hbel.out.tape, Hbel.out.output, Hbel.out.size, Hbel.out.block⟩
  have hA2 : A ≤ W2.heap.size := by rw [hW2]; exact hAW
  have HT2 : Hid (W2.rowIs bT 83 87 tc) := T2
  have HD2 : Hid (W2.rowIs bd 41 (n * 2) (updf (updf bf (pl * 2) (.int .i8 (mt : Int))) (pl * 2 + 1) (.bool mb))) := D2
  have HM2 := (show Hid _ from And.intro m0' (And.intro m1' B2))
  clear hW2 T2 D2 m0' m1' B2 HT HD HOm HOs HOw m0 m1 w2 w3 c1 c2 c3 c4 v5 Hbel hAW
  go_upto_block 4 with fail
  obtain ⟨W3, hW3⟩ : ∃ X, X = W2.alloc (.cells #[.int .i8 (mt : Int), .bool mb] 41) := ⟨_, rfl⟩
  rw [← hW3]
  obtain ⟨be, hbe⟩ : ∃ b, b = W2.heap.size := ⟨_, rfl⟩
  rw [← hbe]
  have blk : ∀ j, j < W2.heap.size → W3.heap[j]? = W2.heap[j]? := fun j hj => by rw [hW3]; exact Below.heap_alloc _ _ _ hj
  have T3 : W3.rowIs bT 83 87 tc := World.rowIs.of_block HT2.out (blk bT (World.rowIs.lt HT2.out))
  have D3 : W3.rowIs bd 41 (n * 2) (updf (updf bf (pl * 2) (.int .i8 (mt : Int))) (pl * 2 + 1) (.bool mb)) := World.rowIs.of_block HD2.out (blk bd (World.rowIs.lt HD2.out))
  have cl : ∀ a v, W2.cell? a = some v → W3.cell? a = some v := fun a v h => by
    have hl : a.block < W2.heap.size := by
      rcases Nat.lt_or_ge a.block W2.heap.size with h2 | h2
      · exact h2
      · rw [World.cell?, Array.getElem?_eq_none h2] at h; cases h
    rw [World.cell?_of_block (w := W2) (blk _ hl)]; exact h
  have m0 := cl _ _ HM2.out.1
  have m1 := cl _ _ HM2.out.2.1
  have e0 : W3.cell? ⟨be, 0, none⟩ = some (.int .i8 (mt : Int)) := by rw [hW3, hbe, World.cell?_alloc_new]; rfl
  have e1 : W3.cell? ⟨be, 1, none⟩ = some (.bool mb) := by rw [hW3, hbe, World.cell?_alloc_new]; rfl
  have B3 : Hid (Below A w0 W3) := by rw [hW3]; exact HM2.out.2.2.alloc hA2 _
  have v72 : W3.cell? ⟨bT, 72, none⟩ = some (.slice (some ⟨bd, 0, none⟩) n n) := (T3.cell (by omega)).trans (congrArg some t72)
  have v84 : W3.cell? ⟨bT, 84, none⟩ = some (.int .i64 D') := (T3.cell (by omega)).trans (congrArg some t84)
  have v78 : W3.cell? ⟨bT, 78, none⟩ = some (.int .i64 T') := (T3.cell (by omega)).trans (congrArg some t78)
  have v82 : W3.cell? ⟨bT, 82, none⟩ = some (.int .i64 (nx : Int)) := (T3.cell (by omega)).trans (congrArg some t82)
  have HD3 : Hid (W3.rowIs bd 41 (n * 2) (updf (updf bf (pl * 2) (.int .i8 (mt : Int))) (pl * 2 + 1) (.bool mb))) := D3
  clear hW3 hbe blk T3 D3 cl HT2 HD2 HM2 hA2 w2' w3'
  go_wp2_with fail
  go_loopw [35] (fun i wr => ∃ j : Nat, j ≤ n ∧ i = .int .i64 j ∧ ∃ q, wr = W3.drewN q) (fun i _ => n - (intOf i).toNat)
  case atStart => exact ⟨0, Nat.zero_le _, rfl, 0, rfl⟩
  case round =>
    obtain ⟨j, hj, rfl, q, rfl⟩ := hrel
    by_cases hlt : j < n
    · have jn : (j : Int) < (n : Int) := by omega
      have x0 := World.rowIs.cell HD3.out (i := j * 2) (by omega)
      have x1 := World.rowIs.cell HD3.out (i := j * 2 + 1) (by omega)
      by_cases hjp : j = pl
      · subst hjp
        rw [show updf (updf bf (j * 2) (.int .i8 (mt : Int))) (j * 2 + 1) (.bool mb) (j * 2) = .int .i8 (mt : Int) from by simp [updf]] at x0
        rw [show updf (updf bf (j * 2) (.int .i8 (mt : Int))) (j * 2 + 1) (.bool mb) (j * 2 + 1) = .bool mb from by simp [updf]] at x1
        go_wp2_with fail
        go_quiet (fail)
        go_wp2_with fail
        refine ⟨⟨j + 1, by omega, by go_num, _, rfl⟩, ?_⟩
        show n - ((j : Int) + 1).toNat < n - ((j : Int)).toNat
        omega
      · have hjp' : ((j : Int) == (pl : Int)) = false := by rw [beq_eq_false_iff_ne]; omega
        rw [show updf (updf bf (pl * 2) (.int .i8 (mt : Int))) (pl * 2 + 1) (.bool mb) (j * 2) = .int .i8 3 from by unfold updf; rw [if_neg (by omega), if_neg (by omega)]; exact (Hbf.out j).1] at x0
        rw [show updf (updf bf (pl * 2) (.int .i8 (mt : Int))) (pl * 2 + 1) (.bool mb) (j * 2 + 1) = .bool true from by unfold updf; rw [if_neg (by omega), if_neg (by omega)]; exact (Hbf.out j).2] at x1
        have HJ : Hid (¬ j = pl) := hjp
        clear hjp
        go_wp2_with fail
        go_quiet (fail)
        go_wp2_with fail
        refine ⟨⟨j + 1, by omega, by go_num, _, rfl⟩, ?_⟩
        show n - ((j : Int) + 1).toNat < n - ((j : Int)).toNat
        omega
    · obtain rfl : j = n := by omega
      have hnn := hpl
      have hj0 : ¬ (j : Int) = 0 := by omega
      have hw1 : IntKind.i64.wrap ((pl : Int) + 1) = (pl : Int) + 1 := by rw [IntKind.wrap_i64]; omega
      have hmd : ((pl : Int) + 1) % (j : Int) = (nx : Int) := by rw [HNX.out, Int.natCast_emod, Int.natCast_add]; rfl
      go_wp2_with fail
      go_quiet (fail)
      go_wp2_with fail
      go_ret
      exact ⟨rfl, ⟨B3.out.os, B3.out.tape, B3.out.output, B3.out.size, B3.out.block⟩⟩
end Go.Proofs.YbulkbldsDoor
