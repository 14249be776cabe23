import Derived.Test.YbulkbldsDoorTurn
import Derived.Test.YbulkbldsDoorLaw15
namespace Go.Proofs.YbulkbldsDoor
open Go.RowKit

set_option maxRecDepth 1000000 in
set_option maxHeartbeats 20000000 in
theorem law12 {w0 W : World} {A n pl lo hi h k : Nat} {an : Bool} {dn tn : Int} {mv : Value}
    (bel : Below A w0 W) (hA : A ≤ W.heap.size) (hn : n ≤ 8) (hpl : pl < n) (hk : k ≤ 255) (hlo : lo ≤ 13) (hhi : hi ≤ 26) (hh : h ≤ 52) (hlh : lo ≤ hi) (hlh2 : lo ≤ h)
    (own : OwnsM A mv (legal an lo hi h) W)
    {y0 y1 y2 y3 y4 y9 y10 y11 y12 y13 y14 y15 y16 y17 y18 y24 y26 y27 y28 y29 y30 y31 y32 y33 y34 y35 y36 y37 y38 y39 y40 y41 y42 y43 y44 y45 y46 y47 y48 y49 y50 y51 y52 y53 y54 y55 y56 y57 y58 y59 y60 y61 y62 y63 y64 y65 y66 y67 y68 y69 y70 y71 y72 y73 y74 y75 y76 y77 y78 y79 y80 y81 y82 y83 y84 y85 y86 y87 y88 y89 y90 y91 y92 y93 y94 y95 y96 y97 y98 y99 y100 y101 y102 y103 y104 y105 y106 y107 y108 y109 y110 y111 y112 y113 y114 y115 y116 y117 y118 y119 y120 y121 y122 y123 y124 y125 y126 y127 y128 y129 y130 y131 y132 y133 y134 y135 y136 y137 y138 y139 y140 y141 y142 y143 y144 y145 y146 y147 y148 y149 y150 y151 y152 y153 y154 y155 y156 y157 y158 y159 y160 y161 y162 y163 y164 y165 y166 y167 y168 y169 y170 y171 y172 y173 y174 y175 y176 y177 y178 y179 y180 y181 y182 y183 y184 y185 y186 y187 y188 y189 y190 y191 y192 y193 y194 y195 y196 y197 y198 y199 y200 y201 y202 y203 y204 y205 y206 y207 y208 y209 y210 y211 y212 y213 y214 y215 y216 y217 y218 y219 y220 y221 y222 y223 y224 y225 y226 y227 y228 y229 y230 y231 y232 y233 y234 y235 y236 y237 y238 y239 y240 y241 y242 y243 y244 y245 y246 y247 y248 y249 y250 y251 y252 y253 y254 y255 y256 y257 y258 y259 y260 : Value} :
    Code.wp Ybad.prog (tlM 12 (Ybad.f6.body.getD .skip)) (bodyPost Ybad.prog Ybad.f6 fun e w' => e = .returned (.bool true) ∧ Below A w0 w') ⟨#[y0, y1, y2, y3, y4, .bool an, .int .u8 (k : Int), .int .i64 dn, .int .i64 tn, y9, y10, y11, y12, y13, y14, y15, y16, y17, y18, .int .i64 (n : Int), .int .i64 (pl : Int), .int .i64 (lo : Int), .int .i64 (hi : Int), .int .i64 (h : Int), y24, mv, y26, y27, y28, y29, y30, y31, y32, y33, y34, y35, y36, y37, y38, y39, y40, y41, y42, y43, y44, y45, y46, y47, y48, y49, y50, y51, y52, y53, y54, y55, y56, y57, y58, y59, y60, y61, y62, y63, y64, y65, y66, y67, y68, y69, y70, y71, y72, y73, y74, y75, y76, y77, y78, y79, y80, y81, y82, y83, y84, y85, y86, y87, y88, y89, y90, y91, y92, y93, y94, y95, y96, y97, y98, y99, y100, y101, y102, y103, y104, y105, y106, y107, y108, y109, y110, y111, y112, y113, y114, y115, y116, y117, y118, y119, y120, y121, y122, y123, y124, y125, y126, y127, y128, y129, y130, y131, y132, y133, y134, y135, y136, y137, y138, y139, y140, y141, y142, y143, y144, y145, y146, y147, y148, y149, y150, y151, y152, y153, y154, y155, y156, y157, y158, y159, y160, y161, y162, y163, y164, y165, y166, y167, y168, y169, y170, y171, y172, y173, y174, y175, y176, y177, y178, y179, y180, y181, y182, y183, y184, y185, y186, y187, y188, y189, y190, y191, y192, y193, y194, y195, y196, y197, y198, y199, y200, y201, y202, y203, y204, y205, y206, y207, y208, y209, y210, y211, y212, y213, y214, y215, y216, y217, y218, y219, y220, y221, y222, y223, y224, y225, y226, y227, y228, y229, y230, y231, y232, y233, y234, y235, y236, y237, y238, y239, y240, y241, y242, y243, y244, y245, y246, y247, y248, y249, y250, y251, y252, y253, y254, y255, y256, y257, y258, y259, y260], []⟩ W := by
  conv => arg 2; whnf
  have hL0 := legal_pos an lo hi h hlh hlh2
  obtain ⟨gw, cw, rfl, lg1, lg2, cells⟩ := own.at hL0
  have HB : Hid (Below A w0 W) := bel
  have HO := (show Hid _ from cells)
  clear bel own cells
  obtain ⟨N, hN⟩ : ∃ N, N = (legal an lo hi h).length := ⟨_, rfl⟩
  have HN : Hid (N = (legal an lo hi h).length) := hN
  have hN0 : ¬ (N : Int) = 0 := by omega
  rw [← hN]
  clear hN hL0
  go_upto_region 22 with fail
  go_cut [29] from 96 to 97 (fun s29 wx => s29 = .pointer (some ⟨W.heap.size + 1, 0, none⟩) ∧ wx = (W.alloc (.cells #[.int .i8 3, .bool true] 41)).alloc (.cells #[.int .i64 (k : Int), .int .i64 0, .int .i64 0, .slice none 0 0, .pointer none] 48))
  case first =>
    go_wp2_with fail
    go_meet
    case rel => exact ⟨rfl, rfl⟩
  case rest =>
    obtain ⟨rfl, rfl⟩ := hcut
    have e1 := szM W (.cells #[.int .i8 3, .bool true] 41)
    have r1 := World.rowIs_alloc (W.alloc (.cells #[.int .i8 3, .bool true] 41)) #[.int .i64 (k : Int), .int .i64 0, .int .i64 0, .slice none 0 0, .pointer none] 48 (chc k 0 0 (.slice none 0 0) (.pointer none)) (fun i hi => by
      rcases i with _ | _ | _ | _ | _ | i
      · rfl
      · rfl
      · rfl
      · rfl
      · rfl
      · exact absurd (show i + 5 < 5 from hi) (by omega))
    rw [e1] at r1
    refine ‹∀ (a : Act) (w : World), Code.wp Ybad.prog _ _ a w → _› _ _ ?_
    rw [HN.out]
    refine law15 (bc := W.heap.size + 1) (bm := W.heap.size) ?_ hn hpl hk hlo hhi hh hlh hlh2 r1 ?_ ?_ ?_ (by omega) (by omega) (by omega) ?_
    · exact (HB.out.alloc hA _).alloc (by omega) _
    · rw [World.cell?_of_block (w := W.alloc (.cells #[.int .i8 3, .bool true] 41)) (Below.heap_alloc _ _ _ (by simp)), World.cell?_alloc_new]; rfl
    · rw [World.cell?_of_block (w := W.alloc (.cells #[.int .i8 3, .bool true] 41)) (Below.heap_alloc _ _ _ (by simp)), World.cell?_alloc_new]; rfl
    · exact fun j u hj => (World.cell?_of_block (w := W) ((Below.heap_alloc _ _ _ (by rw [e1]; show gw < _; omega)).trans (Below.heap_alloc _ _ _ lg2))).trans (HO.out j u hj)
    · rw [szM, e1]; omega
end Go.Proofs.YbulkbldsDoor
