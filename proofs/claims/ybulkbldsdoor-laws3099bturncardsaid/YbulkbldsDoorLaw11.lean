import Derived.Test.YbulkbldsDoorTurn
import Derived.Test.YbulkbldsDoorLaw12
namespace Go.Proofs.YbulkbldsDoor
open Go.RowKit

set_option maxRecDepth 1000000 in
set_option maxHeartbeats 20000000 in
theorem law11 {w0 W : World} {A n pl lo hi h k F M : Nat} {an : Bool} {dn tn : Int} {mv : Value} {pre : List Mv}
    (bel : Below A w0 W) (hA : A ≤ W.heap.size) (hn : n ≤ 8) (hpl : pl < n) (hk : k ≤ 255) (hlo : lo ≤ 13) (hhi : hi ≤ 26) (hh : h ≤ 52) (hlh : lo ≤ hi) (hlh2 : lo ≤ h)
    (own : OwnsM A mv pre W) (hp : pre.length ≤ 1) (hF : F ≤ 13) (hM : M ≤ 26) (hL : legal an lo hi h = pre ++ bids F (M + 1 - F))
    {y0 y1 y2 y3 y4 y9 y10 y11 y12 y13 y14 y15 y16 y17 y18 y27 y28 y29 y30 y31 y32 y33 y34 y35 y36 y37 y38 y39 y40 y41 y42 y43 y44 y45 y46 y47 y48 y49 y50 y51 y52 y53 y54 y55 y56 y57 y58 y59 y60 y61 y62 y63 y64 y65 y66 y67 y68 y69 y70 y71 y72 y73 y74 y75 y76 y77 y78 y79 y80 y81 y82 y83 y84 y85 y86 y87 y88 y89 y90 y91 y92 y93 y94 y95 y96 y97 y98 y99 y100 y101 y102 y103 y104 y105 y106 y107 y108 y109 y110 y111 y112 y113 y114 y115 y116 y117 y118 y119 y120 y121 y122 y123 y124 y125 y126 y127 y128 y129 y130 y131 y132 y133 y134 y135 y136 y137 y138 y139 y140 y141 y142 y143 y144 y145 y146 y147 y148 y149 y150 y151 y152 y153 y154 y155 y156 y157 y158 y159 y160 y161 y162 y163 y164 y165 y166 y167 y168 y169 y170 y171 y172 y173 y174 y175 y176 y177 y178 y179 y180 y181 y182 y183 y184 y185 y186 y187 y188 y189 y190 y191 y192 y193 y194 y195 y196 y197 y198 y199 y200 y201 y202 y203 y204 y205 y206 y207 y208 y209 y210 y211 y212 y213 y214 y215 y216 y217 y218 y219 y220 y221 y222 y223 y224 y225 y226 y227 y228 y229 y230 y231 y232 y233 y234 y235 y236 y237 y238 y239 y240 y241 y242 y243 y244 y245 y246 y247 y248 y249 y250 y251 y252 y253 y254 y255 y256 y257 y258 y259 y260 : Value} :
    Code.wp Ybad.prog (tlM 11 (Ybad.f6.body.getD .skip)) (bodyPost Ybad.prog Ybad.f6 fun e w' => e = .returned (.bool true) ∧ Below A w0 w') ⟨#[y0, y1, y2, y3, y4, .bool an, .int .u8 (k : Int), .int .i64 dn, .int .i64 tn, y9, y10, y11, y12, y13, y14, y15, y16, y17, y18, .int .i64 (n : Int), .int .i64 (pl : Int), .int .i64 (lo : Int), .int .i64 (hi : Int), .int .i64 (h : Int), .int .i64 (M : Int), mv, .int .i64 (F : Int), y27, y28, y29, y30, y31, y32, y33, y34, y35, y36, y37, y38, y39, y40, y41, y42, y43, y44, y45, y46, y47, y48, y49, y50, y51, y52, y53, y54, y55, y56, y57, y58, y59, y60, y61, y62, y63, y64, y65, y66, y67, y68, y69, y70, y71, y72, y73, y74, y75, y76, y77, y78, y79, y80, y81, y82, y83, y84, y85, y86, y87, y88, y89, y90, y91, y92, y93, y94, y95, y96, y97, y98, y99, y100, y101, y102, y103, y104, y105, y106, y107, y108, y109, y110, y111, y112, y113, y114, y115, y116, y117, y118, y119, y120, y121, y122, y123, y124, y125, y126, y127, y128, y129, y130, y131, y132, y133, y134, y135, y136, y137, y138, y139, y140, y141, y142, y143, y144, y145, y146, y147, y148, y149, y150, y151, y152, y153, y154, y155, y156, y157, y158, y159, y160, y161, y162, y163, y164, y165, y166, y167, y168, y169, y170, y171, y172, y173, y174, y175, y176, y177, y178, y179, y180, y181, y182, y183, y184, y185, y186, y187, y188, y189, y190, y191, y192, y193, y194, y195, y196, y197, y198, y199, y200, y201, y202, y203, y204, y205, y206, y207, y208, y209, y210, y211, y212, y213, y214, y215, y216, y217, y218, y219, y220, y221, y222, y223, y224, y225, y226, y227, y228, y229, y230, y231, y232, y233, y234, y235, y236, y237, y238, y239, y240, y241, y242, y243, y244, y245, y246, y247, y248, y249, y250, y251, y252, y253, y254, y255, y256, y257, y258, y259, y260], []⟩ W := by
  conv => arg 2; whnf
  have HS := (show Hid _ from And.intro bel (And.intro hA own))
  have HLL := (show Hid _ from hL)
  clear bel hA own hL
  go_upto_block 0 with fail
  go_cut [25, 27] from 90 to 91 (fun s25 s27 wx => Below A w0 wx ∧ A ≤ wx.heap.size ∧ OwnsM A s25 (legal an lo hi h) wx)
  case first =>
    go_wp2_with fail
    go_loopw [25, 27] (fun v i wr => ∃ j : Nat, j ≤ M + 1 - F ∧ i = .int .i64 ((F + j : Nat) : Int) ∧ Below A w0 wr ∧ A ≤ wr.heap.size ∧ OwnsM A v (pre ++ bids F j) wr) (fun _ i _ => M + 1 - (intOf i).toNat)
    case atStart => exact ⟨0, Nat.zero_le _, rfl, HS.out.1, HS.out.2.1, by simpa [bids] using HS.out.2.2⟩
    case round =>
      obtain ⟨j, hj, rfl, B1, A1, O1⟩ := hrel
      clear HS
      by_cases hlt : F + j ≤ M
      · obtain ⟨N, hN⟩ : ∃ N, N = F + j := ⟨_, rfl⟩
        rw [← hN]
        have hNM : (N : Int) ≤ (M : Int) := by omega
        have hwr : IntKind.i8.wrap (N : Int) = (N : Int) := wrap8 N (by omega)
        have hw1 : IntKind.i64.wrap ((N : Int) + 1) = (N : Int) + 1 := by rw [IntKind.wrap_i64]; omega
        have HS := (show Hid _ from And.intro B1 (And.intro A1 O1))
        have HN : Hid (N = F + j) := hN
        clear B1 A1 O1 hN
        go_wp2_with (at_builtin; refine wp_mv _ rfl _ _ rfl HS.out.2.2 rfl HS.out.2.1 (by simp [bids_len]; omega) (N, false) _ rfl rfl ?_)
        intro v1 w1 o1 b1
        have H1 := (show Hid _ from And.intro o1 b1)
        clear o1 b1
        go_wp2_with fail
        refine ⟨⟨j + 1, by have := HN.out; omega, by have := HN.out; go_num, ?_, ?_, ?_⟩, ?_⟩
        · exact HS.out.1.trans ⟨H1.out.2.os, H1.out.2.tape, H1.out.2.output, H1.out.2.size, H1.out.2.block⟩
        · exact Nat.le_trans HS.out.2.1 H1.out.2.size
        · have := H1.out.1
          rw [HN.out, ← bids_succ] at this
          exact this
        · show M + 1 - ((N : Int) + 1).toNat < M + 1 - ((N : Int)).toNat
          omega
      · have hkk : j = M + 1 - F := by omega
        have hnl : ¬ ((F + j : Nat) : Int) ≤ (M : Int) := by omega
        obtain ⟨N, hN⟩ : ∃ N, N = F + j := ⟨_, rfl⟩
        rw [← hN] at hnl ⊢
        rw [hkk, ← HLL.out] at O1
        have HS := (show Hid _ from And.intro B1 (And.intro A1 O1))
        clear B1 A1 O1 hN hkk
        go_wp2_with fail
        go_meet
        case rel => exact HS.out
  case rest =>
    obtain ⟨b1, b2, b3⟩ := hcut
    refine ‹∀ (a : Act) (w : World), Code.wp Ybad.prog _ _ a w → _› _ _ ?_
    exact law12 b1 b2 hn hpl hk hlo hhi hh hlh hlh2 b3
end Go.Proofs.YbulkbldsDoor
