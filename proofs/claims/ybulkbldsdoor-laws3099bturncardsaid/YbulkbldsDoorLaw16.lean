import Derived.Test.YbulkbldsDoorTurn
import Derived.Test.YbulkbldsDoorLaw20
namespace Go.Proofs.YbulkbldsDoor
open Go.RowKit

/-- The blocks lie apart. -/
structure Dj (bT bG bp bl bd bc bm gw : Nat) : Prop where
  n1 : bG ≠ bT
  n2 : bp ≠ bT
  n3 : bl ≠ bT
  n4 : bd ≠ bT
  n5 : bc ≠ bT
  n6 : bm ≠ bT
  n7 : gw ≠ bT
  p1 : bG ≠ bp
  p2 : bl ≠ bp
  p3 : bd ≠ bp
  p4 : bc ≠ bp
  p5 : bm ≠ bp
  p6 : gw ≠ bp
  q1 : bG ≠ bl
  q3 : bd ≠ bl
  q4 : bc ≠ bl
  q5 : bm ≠ bl
  q6 : gw ≠ bl
  r1 : bG ≠ bd
  r4 : bc ≠ bd
  r5 : bm ≠ bd
  r6 : gw ≠ bd
  s1 : bG ≠ bc
  s5 : bm ≠ bc
  s6 : gw ≠ bc

def mkr (i : Nat) : Value := if i % 2 = 0 then .int .i8 3 else .bool true

theorem mkr_at (i : Nat) : mkr (i * 2) = .int .i8 3 ∧ mkr (i * 2 + 1) = .bool true := by
  unfold mkr
  rw [if_pos (by omega), if_neg (by omega)]
  exact ⟨rfl, rfl⟩

theorem cell_ltM {w : World} {a : Addr} {v : Value} (h : w.cell? a = some v) : a.block < w.heap.size := by
  by_cases hb : a.block < w.heap.size
  · exact hb
  · rw [World.cell?, Array.getElem?_eq_none (by omega)] at h
    cases h

/-- What the loop has laid of the first j seats. -/
structure LI (bp bl bd bc n : Nat) (hs : Int) (pf df : Nat → Value) (W : World) (j : Nat) (wr : World) : Prop where
  p : wr.rowIs bp 85 n (fun i => if i < j then .iface 45 (.pointer (some ⟨bc, 0, none⟩)) else .nilIface)
  d : wr.rowIs bd 41 (n * 2) (fun i => if i < j * 2 then mkr i else df i)
  l : wr.rowIs bl 79 (n * 54) (fun i => if i < j * 54 ∧ i % 54 = 53 then .int .i64 hs else pf i)
  os : wr.os = W.os
  tape : wr.tape = W.tape
  output : wr.output = W.output
  size : wr.heap.size = W.heap.size
  block : ∀ b, b ≠ bp → b ≠ bl → b ≠ bd → wr.heap[b]? = W.heap[b]?

theorem LI.drew {bp bl bd bc n j : Nat} {hs : Int} {pf df : Nat → Value} {W wr : World} (h : LI bp bl bd bc n hs pf df W j wr) : LI bp bl bd bc n hs pf df W j wr.drew :=
  ⟨h.p, h.d, h.l, h.os, h.tape, h.output, h.size, h.block⟩

theorem far1 {w : World} {b d i x : Nat} {u s : Value} (h : w.cell? ⟨b, i, none⟩ = some s) (hn : d ≠ b) : (w.setCell ⟨d, x, none⟩ u).cell? ⟨b, i, none⟩ = some s :=
  (World.cell?_of_block (w := w) (Below.heap_setCell _ _ _ _ (fun e => hn e.symm))).trans h

theorem LI.next {bp bl bd bc n j : Nat} {hs : Int} {pf df : Nat → Value} {W wr : World} (h : LI bp bl bd bc n hs pf df W j wr) (p2 : bl ≠ bp) (p3 : bd ≠ bp) (q3 : bd ≠ bl) :
    LI bp bl bd bc n hs pf df W (j + 1) ((((wr.setCell ⟨bp, j, none⟩ (.iface 45 (.pointer (some ⟨bc, 0, none⟩)))).setCell ⟨bd, j * 2, none⟩ (.int .i8 3)).setCell ⟨bd, j * 2 + 1, none⟩ (.bool true)).setCell ⟨bl, j * 54 + 53, none⟩ (.int .i64 hs)) := by
  refine ⟨?_, ?_, ?_, h.os, h.tape, h.output, by simp [h.size], ?_⟩
  · have h1 := (h.p.set j (.iface 45 (.pointer (some ⟨bc, 0, none⟩)))).congr (g := fun i => if i < j + 1 then .iface 45 (.pointer (some ⟨bc, 0, none⟩)) else .nilIface) (fun i _ => by
      by_cases e : i = j
      · subst e; simp
      · simp only [if_neg e]
        by_cases e2 : i < j
        · rw [if_pos e2, if_pos (by omega)]
        · rw [if_neg e2, if_neg (by omega)])
    exact World.rowIs.of_block h1 ((Below.heap_setCell _ _ _ _ (fun e => p2 e.symm)).trans ((Below.heap_setCell _ _ _ _ (fun e => p3 e.symm)).trans (Below.heap_setCell _ _ _ _ (fun e => p3 e.symm))))
  · have h0 := World.rowIs.of_block (w' := wr.setCell ⟨bp, j, none⟩ (.iface 45 (.pointer (some ⟨bc, 0, none⟩)))) h.d (Below.heap_setCell _ _ _ _ p3)
    have h1 := ((h0.set (j * 2) (.int .i8 3)).set (j * 2 + 1) (.bool true)).congr (g := fun i => if i < (j + 1) * 2 then mkr i else df i) (fun i _ => by
      by_cases e1 : i = j * 2 + 1
      · subst e1; rw [if_pos rfl, if_pos (by omega)]; unfold mkr; rw [if_neg (by omega)]
      · rw [if_neg e1]
        by_cases e0 : i = j * 2
        · subst e0; rw [if_pos rfl, if_pos (by omega)]; unfold mkr; rw [if_pos (by omega)]
        · rw [if_neg e0]
          by_cases e2 : i < j * 2
          · rw [if_pos e2, if_pos (by omega)]
          · rw [if_neg e2, if_neg (by omega)])
    exact World.rowIs.of_block h1 (Below.heap_setCell _ _ _ _ q3)
  · have h0 := World.rowIs.of_block (w' := ((wr.setCell ⟨bp, j, none⟩ (.iface 45 (.pointer (some ⟨bc, 0, none⟩)))).setCell ⟨bd, j * 2, none⟩ (.int .i8 3)).setCell ⟨bd, j * 2 + 1, none⟩ (.bool true)) h.l ((Below.heap_setCell _ _ _ _ (fun e => q3 e.symm)).trans ((Below.heap_setCell _ _ _ _ (fun e => q3 e.symm)).trans (Below.heap_setCell _ _ _ _ p2)))
    refine (h0.set (j * 54 + 53) (.int .i64 hs)).congr (fun i _ => ?_)
    by_cases e : i = j * 54 + 53
    · subst e; rw [if_pos rfl, if_pos (by omega)]
    · rw [if_neg e]
      by_cases e2 : i < j * 54 ∧ i % 54 = 53
      · rw [if_pos e2, if_pos (by omega)]
      · rw [if_neg e2, if_neg (by omega)]
  · intro b h1 h2 h3
    exact (Below.heap_setCell _ _ _ _ h2).trans ((Below.heap_setCell _ _ _ _ h3).trans ((Below.heap_setCell _ _ _ _ h3).trans ((Below.heap_setCell _ _ _ _ h1).trans (h.block b h1 h2 h3))))

set_option maxRecDepth 1000000 in
set_option maxHeartbeats 20000000 in
theorem law16 {w0 W : World} {A bT bG bp bl bd bc bm n pl lo hi h k gw cw : Nat} {an : Bool} {dn tn : Int} {tc df pf : Nat → Value}
    (bel : Below A w0 W) (hn : n ≤ 8) (hpl : pl < n) (hk : k ≤ 255) (hlo : lo ≤ 13) (hhi : hi ≤ 26) (hh : h ≤ 52) (hlh : lo ≤ hi) (hlh2 : lo ≤ h)
    (T : W.rowIs bT 83 87 tc) (t0 : tc 0 = .pointer (some ⟨bG, 0, none⟩)) (t2 : tc 2 = .pointer none) (t3 : tc 3 = .slice (some ⟨bp, 0, none⟩) n n) (t5 : tc 5 = .slice none 0 0) (t12 : tc 12 = .slice (some ⟨bl, 0, none⟩) n n) (t72 : tc 72 = .slice (some ⟨bd, 0, none⟩) n n) (t78 : tc 78 = .int .i64 tn) (t82 : tc 82 = .int .i64 pl) (t84 : tc 84 = .int .i64 dn)
    (g2 : W.cell? ⟨bG, 2, none⟩ = some (.int .i64 n)) (Pp : W.rowIs bp 85 n (fun _ => .nilIface)) (Pl' : W.rowIs bl 79 (n * 54) pf) (Pd : W.rowIs bd 41 (n * 2) df) (C : W.rowIs bc 48 5 (chc k 0 0 (.slice none 0 0) (.pointer none)))
    (m0 : W.cell? ⟨bm, 0, none⟩ = some (.int .i8 3)) (m1 : W.cell? ⟨bm, 1, none⟩ = some (.bool true)) (ow : ∀ j u, (mvCells (legal an lo hi h))[j]? = some u → W.cell? ⟨gw, j, none⟩ = some u)
    (dj : Dj bT bG bp bl bd bc bm gw) (lo' : A ≤ bT ∧ A ≤ bp ∧ A ≤ bl ∧ A ≤ bd ∧ A ≤ bc)
    {y0 y1 y2 y3 y4 y9 y10 y11 y12 y13 y14 y15 y16 y17 y18 y24 y26 y27 y31 y32 y33 y34 y35 y36 y37 y38 y39 y40 y41 y42 y43 y44 y45 y46 y47 y48 y49 y50 y51 y52 y53 y54 y55 y56 y57 y58 y59 y60 y61 y62 y63 y64 y65 y66 y67 y68 y69 y70 y71 y72 y73 y74 y75 y76 y77 y78 y79 y80 y81 y82 y83 y84 y85 y86 y87 y88 y89 y90 y91 y92 y93 y94 y95 y96 y97 y98 y99 y100 y101 y102 y103 y104 y105 y106 y107 y108 y109 y110 y111 y112 y113 y114 y115 y116 y117 y118 y119 y120 y121 y122 y123 y124 y125 y126 y127 y128 y129 y130 y131 y132 y133 y134 y135 y136 y137 y138 y139 y140 y141 y142 y143 y144 y145 y146 y147 y148 y149 y150 y151 y152 y153 y154 y155 y156 y157 y158 y159 y160 y161 y162 y163 y164 y165 y166 y167 y168 y169 y170 y171 y172 y173 y174 y175 y176 y177 y178 y179 y180 y181 y182 y183 y184 y185 y186 y187 y188 y189 y190 y191 y192 y193 y194 y195 y196 y197 y198 y199 y200 y201 y202 y203 y204 y205 y206 y207 y208 y209 y210 y211 y212 y213 y214 y215 y216 y217 y218 y219 y220 y221 y222 y223 y224 y225 y226 y227 y228 y229 y230 y231 y232 y233 y234 y235 y236 y237 y238 y239 y240 y241 y242 y243 y244 y245 y246 y247 y248 y249 y250 y251 y252 y253 y254 y255 y256 y257 y258 y259 y260 : Value} :
    Code.wp Ybad.prog (tlM 16 (Ybad.f6.body.getD .skip)) (bodyPost Ybad.prog Ybad.f6 fun e w' => e = .returned (.bool true) ∧ Below A w0 w') ⟨#[y0, y1, y2, y3, y4, .bool an, .int .u8 (k : Int), .int .i64 dn, .int .i64 tn, y9, y10, y11, y12, y13, y14, y15, y16, y17, y18, .int .i64 (n : Int), .int .i64 (pl : Int), .int .i64 (lo : Int), .int .i64 (hi : Int), .int .i64 (h : Int), y24, .slice (some ⟨gw, 0, none⟩) (legal an lo hi h).length cw, y26, y27, .pointer (some ⟨bm, 0, none⟩), .pointer (some ⟨bc, 0, none⟩), .pointer (some ⟨bT, 0, none⟩), y31, y32, y33, y34, y35, y36, y37, y38, y39, y40, y41, y42, y43, y44, y45, y46, y47, y48, y49, y50, y51, y52, y53, y54, y55, y56, y57, y58, y59, y60, y61, y62, y63, y64, y65, y66, y67, y68, y69, y70, y71, y72, y73, y74, y75, y76, y77, y78, y79, y80, y81, y82, y83, y84, y85, y86, y87, y88, y89, y90, y91, y92, y93, y94, y95, y96, y97, y98, y99, y100, y101, y102, y103, y104, y105, y106, y107, y108, y109, y110, y111, y112, y113, y114, y115, y116, y117, y118, y119, y120, y121, y122, y123, y124, y125, y126, y127, y128, y129, y130, y131, y132, y133, y134, y135, y136, y137, y138, y139, y140, y141, y142, y143, y144, y145, y146, y147, y148, y149, y150, y151, y152, y153, y154, y155, y156, y157, y158, y159, y160, y161, y162, y163, y164, y165, y166, y167, y168, y169, y170, y171, y172, y173, y174, y175, y176, y177, y178, y179, y180, y181, y182, y183, y184, y185, y186, y187, y188, y189, y190, y191, y192, y193, y194, y195, y196, y197, y198, y199, y200, y201, y202, y203, y204, y205, y206, y207, y208, y209, y210, y211, y212, y213, y214, y215, y216, y217, y218, y219, y220, y221, y222, y223, y224, y225, y226, y227, y228, y229, y230, y231, y232, y233, y234, y235, y236, y237, y238, y239, y240, y241, y242, y243, y244, y245, y246, y247, y248, y249, y250, y251, y252, y253, y254, y255, y256, y257, y258, y259, y260], []⟩ W := by
  conv => arg 2; whnf
  obtain ⟨n1, n2, n3, n4, n5, n6, n7, p1, p2, p3, p4, p5, p6, q1, q3, q4, q5, q6, r1, r4, r5, r6, s1, s5, s6⟩ := dj
  have I0 : LI bp bl bd bc n (52 - (h : Int)) pf df W 0 W := by
    refine ⟨Pp.congr (fun i _ => by simp), Pd.congr (fun i _ => by simp), Pl'.congr (fun i _ => by simp), rfl, rfl, rfl, rfl, fun _ _ _ _ => rfl⟩
  have v3 : W.cell? ⟨bT, 3, none⟩ = some (.slice (some ⟨bp, 0, none⟩) n n) := (T.cell (by omega)).trans (congrArg some t3)
  have v12 : W.cell? ⟨bT, 12, none⟩ = some (.slice (some ⟨bl, 0, none⟩) n n) := (T.cell (by omega)).trans (congrArg some t12)
  have v72 : W.cell? ⟨bT, 72, none⟩ = some (.slice (some ⟨bd, 0, none⟩) n n) := (T.cell (by omega)).trans (congrArg some t72)
  have HT : Hid (W.rowIs bT 83 87 tc) := T
  have HC : Hid (W.rowIs bc 48 5 (chc k 0 0 (.slice none 0 0) (.pointer none))) := C
  have HO := (show Hid _ from ow)
  have Hbel : Hid (Below A w0 W) := bel
  have HI : Hid (LI bp bl bd bc n (52 - (h : Int)) pf df W 0 W) := I0
  clear I0 T C Pp Pl' Pd ow bel
  have hws : IntKind.i64.wrap (52 - (h : Int)) = 52 - (h : Int) := by rw [IntKind.wrap_i64]; omega
  go_upto_block 2 with fail
  go_cut [31] from 110 to 111 (fun _ wx => LI bp bl bd bc n (52 - (h : Int)) pf df W n wx)
  case first =>
    go_wp2_with fail
    go_loopw [31] (fun i wr => ∃ j : Nat, j ≤ n ∧ i = .int .i64 j ∧ LI bp bl bd bc n (52 - (h : Int)) pf df W j wr) (fun i _ => n - (intOf i).toNat)
    case atStart => exact ⟨0, Nat.zero_le _, rfl, HI.out⟩
    case round =>
      obtain ⟨j, hj, rfl, I⟩ := hrel
      clear HI
      by_cases hlt : j < n
      · have jn : (j : Int) < (n : Int) := by omega
        have x3 := (World.cell?_of_block (w := W) (a := ⟨bT, 3, none⟩) (I.block bT n2.symm n3.symm n4.symm)).trans v3
        have x12 := (World.cell?_of_block (w := W) (a := ⟨bT, 12, none⟩) (I.block bT n2.symm n3.symm n4.symm)).trans v12
        have x72 := (World.cell?_of_block (w := W) (a := ⟨bT, 72, none⟩) (I.block bT n2.symm n3.symm n4.symm)).trans v72
        have y0 := (World.cell?_of_block (w := W) (a := ⟨bm, 0, none⟩) (I.block bm p5 q5 r5)).trans m0
        have y1 := (World.cell?_of_block (w := W) (a := ⟨bm, 1, none⟩) (I.block bm p5 q5 r5)).trans m1
        have N1 := I.next p2 p3 q3
        have a1 := I.p.cell hlt
        have f1 := I.p.frozen j
        have a2 := I.d.cell (i := j * 2) (by omega)
        have f2 := I.d.frozen (j * 2)
        have a3 := I.d.cell (i := j * 2 + 1) (by omega)
        have f3 := I.d.frozen (j * 2 + 1)
        have a4 := I.l.cell (i := j * 54 + 53) (by omega)
        have f4 := I.l.frozen (j * 54 + 53)
        obtain ⟨u1, b1⟩ : ∃ u, wr.cell? ⟨bp, j, none⟩ = some u := ⟨_, a1⟩
        obtain ⟨u2, b2⟩ : ∃ u, wr.cell? ⟨bd, j * 2, none⟩ = some u := ⟨_, a2⟩
        obtain ⟨u3, b3⟩ : ∃ u, wr.cell? ⟨bd, j * 2 + 1, none⟩ = some u := ⟨_, a3⟩
        obtain ⟨u4, b4⟩ : ∃ u, wr.cell? ⟨bl, j * 54 + 53, none⟩ = some u := ⟨_, a4⟩
        have HN := (show Hid _ from N1)
        have n2' := n2.symm
        have n3' := n3.symm
        have n4' := n4.symm
        clear N1 I a1 a2 a3 a4
        go_wp2_with fail
        go_region_held3 (fun w' => w'.cell? ⟨bT, 72, none⟩ = some (.slice (some ⟨bd, 0, none⟩) n n) ∧ w'.cell? ⟨bm, 0, none⟩ = some (.int .i8 3) ∧ w'.cell? ⟨bm, 1, none⟩ = some (.bool true))
          (first | exact ⟨far1 x72 n2, far1 y0 p5.symm, far1 y1 p5.symm⟩ | exact ⟨far2 (far1 x72 n2) n4, far2 (far1 y0 p5.symm) r5.symm, far2 (far1 y1 p5.symm) r5.symm⟩) (fail)
        go_wp2_with fail
        refine ⟨⟨j + 1, by omega, by go_num, HN.out.drew⟩, ?_⟩
        show n - ((j : Int) + 1).toNat < n - ((j : Int)).toNat
        omega
      · obtain rfl : j = n := by omega
        have HN := (show Hid _ from I)
        clear I
        go_wp2_with fail
        go_meet
        case rel => exact HN.out
  case rest =>
    have I := hcut
    have x12 := (World.cell?_of_block (w := W) (a := ⟨bT, 12, none⟩) (I.block bT n2.symm n3.symm n4.symm)).trans v12
    have a4 := I.l.cell (i := pl * 54 + 53) (by omega)
    have f4 := I.l.frozen (pl * 54 + 53)
    obtain ⟨u4, b4⟩ : ∃ u, wc.cell? ⟨bl, pl * 54 + 53, none⟩ = some u := ⟨_, a4⟩
    have hpn : (pl : Int) < (n : Int) := by omega
    have L1 := I.l.set (pl * 54 + 53) (.int .i64 (h : Int))
    have bkW : ∀ b, b ≠ bp → b ≠ bl → b ≠ bd → (wc.setCell ⟨bl, pl * 54 + 53, none⟩ (.int .i64 (h : Int))).heap[b]? = W.heap[b]? := fun b h1 h2 h3 => (Below.heap_setCell _ _ _ _ h2).trans (I.block b h1 h2 h3)
    have P1 := World.rowIs.of_block (w' := wc.setCell ⟨bl, pl * 54 + 53, none⟩ (.int .i64 (h : Int))) I.p (Below.heap_setCell _ _ _ _ p2.symm)
    have D1 := World.rowIs.of_block (w' := wc.setCell ⟨bl, pl * 54 + 53, none⟩ (.int .i64 (h : Int))) I.d (Below.heap_setCell _ _ _ _ q3)
    have sz1 : (wc.setCell ⟨bl, pl * 54 + 53, none⟩ (.int .i64 (h : Int))).heap.size = W.heap.size := by simp [I.size]
    have ot1 : (wc.setCell ⟨bl, pl * 54 + 53, none⟩ (.int .i64 (h : Int))).os = W.os ∧ (wc.setCell ⟨bl, pl * 54 + 53, none⟩ (.int .i64 (h : Int))).tape = W.tape ∧ (wc.setCell ⟨bl, pl * 54 + 53, none⟩ (.int .i64 (h : Int))).output = W.output := ⟨I.os, I.tape, I.output⟩
    have H1 := (show Hid _ from And.intro L1 (And.intro bkW (And.intro P1 (And.intro D1 (And.intro sz1 ot1)))))
    clear L1 bkW P1 D1 sz1 ot1 I hcut a4
    go_upto_region 31 with fail
    generalize wc.setCell ⟨bl, pl * 54 + 53, none⟩ (.int .i64 (h : Int)) = W1 at H1 ⊢
    clear x12 f4 b4
    go_upto_region 32 with fail
    obtain ⟨W2, hW2⟩ : ∃ X, X = W1.alloc (.cells #[.string ⟨#[]⟩, .string ⟨#[]⟩, .string ⟨#[]⟩, .string ⟨#[]⟩, .int .i64 0, .string ⟨#[]⟩, .int .i64 (lo : Int), .int .i64 (hi : Int), .bool an, .string ⟨#[]⟩, .string ⟨#[]⟩, .string ⟨#[]⟩] 96) := ⟨_, rfl⟩
    rw [← hW2]
    obtain ⟨bP, hbP⟩ : ∃ b, b = W1.heap.size := ⟨_, rfl⟩
    rw [← hbP]
    obtain ⟨L1, bkW, P1, D1, sz1, ot1⟩ := H1.out
    have sz2 : W2.heap.size = W.heap.size + 1 := by rw [hW2]; simp [sz1]
    have blk2 : ∀ b, b < W1.heap.size → W2.heap[b]? = W1.heap[b]? := fun b hb => by rw [hW2]; exact Below.heap_alloc _ _ _ hb
    have lT := World.rowIs.lt HT.out
    have lC := World.rowIs.lt HC.out
    have lp := World.rowIs.lt P1
    have ll := World.rowIs.lt L1
    have ld := World.rowIs.lt D1
    have lG : bG < W.heap.size := cell_ltM g2
    have lm : bm < W.heap.size := cell_ltM m0
    have S2 : BT W2.heap.size bT bG bP bp bl bd bc n pl lo hi h k an dn tn tc mkr W2 := by
      refine ⟨World.rowIs.of_block HT.out ((blk2 bT (by omega)).trans (bkW bT n2.symm n3.symm n4.symm)), t0, t2, t3, t5, t12, t72, t78, t82, t84, ?_, ?_, ?_, ?_, ?_, ?_, ?_, ?_, Nat.le_refl _⟩
      · exact (World.cell?_of_block (w := W) (a := ⟨bG, 2, none⟩) ((blk2 bG (by omega)).trans (bkW bG p1 q1 r1))).trans g2
      · rw [hW2, hbP, World.cell?_alloc_new]; rfl
      · rw [hW2, hbP, World.cell?_alloc_new]; rfl
      · rw [hW2, hbP, World.cell?_alloc_new]; rfl
      · refine (World.cell?_of_block (w := W1) (a := ⟨bl, pl * 54 + 53, none⟩) (blk2 bl ll)).trans ((L1.cell (by omega)).trans ?_)
        rw [if_pos rfl]
      · refine (World.cell?_of_block (w := W1) (a := ⟨bp, pl, none⟩) (blk2 bp lp)).trans ((P1.cell (by omega)).trans ?_)
        rw [if_pos hpl]
      · exact (World.rowIs.of_block D1 (blk2 bd ld)).congr (fun i hi => by rw [if_pos hi])
      · exact World.rowIs.of_block HC.out ((blk2 bc (by omega)).trans (bkW bc p4 q4 r4))
    have Q2 : PlT W2.heap.size bT bG bP bp bl bd bc := ⟨by omega, by omega, by omega, by omega, by omega, by omega, by omega, n1, by omega, n2, n3, n4, n5, r4.symm, s1, r1⟩
    have bel2 : Below A w0 W2 := by
      obtain ⟨z1, z2, z3, z4, z5⟩ := lo'
      refine Hbel.out.trans ⟨?_, ?_, ?_, by omega, fun b hb => (blk2 b (by omega)).trans (bkW b (by omega) (by omega) (by omega))⟩
      · rw [hW2]; exact ot1.1
      · rw [hW2]; exact ot1.2.1
      · rw [hW2]; exact ot1.2.2
    have o2 : ∀ j u, (mvCells (legal an lo hi h))[j]? = some u → W2.cell? ⟨gw, j, none⟩ = some u ∧ gw < W.heap.size := fun j u hj => by
      have hl : gw < W.heap.size := cell_ltM (HO.out j u hj)
      exact ⟨(World.cell?_of_block (w := W) (a := ⟨gw, j, none⟩) ((blk2 gw (by omega)).trans (bkW gw p6 q6 r6))).trans (HO.out j u hj), hl⟩
    have k0 : W2.cell? ⟨bm, 0, none⟩ = some (.int .i8 3) := (World.cell?_of_block (w := W) (a := ⟨bm, 0, none⟩) ((blk2 bm (by omega)).trans (bkW bm p5 q5 r5))).trans m0
    have k1 : W2.cell? ⟨bm, 1, none⟩ = some (.bool true) := (World.cell?_of_block (w := W) (a := ⟨bm, 1, none⟩) ((blk2 bm (by omega)).trans (bkW bm p5 q5 r5))).trans m1
    have hL0 := legal_pos an lo hi h hlh hlh2
    have hL1 := legal_len an lo hi h hhi
    have F := (show Hid _ from And.intro S2 (And.intro Q2 (And.intro bel2 (And.intro o2 (And.intro k0 (And.intro k1 (And.intro sz2 (And.intro lT (And.intro lm lo')))))))))
    clear S2 Q2 bel2 o2 k0 k1 L1 bkW P1 D1 sz1 ot1 H1 blk2 hW2 hbP lT lC lp ll ld lG
    go_cut [33] from 155 to 156 (fun s33 wx => s33 = .bool (IntKind.i64.wrap (dn + 1) == (n : Int)) ∧ ∃ gm cm gs cs tc' m, Below A w0 wx ∧ A ≤ wx.heap.size ∧ (legal an lo hi h)[k % (legal an lo hi h).length]? = some m ∧
      wx.rowIs bT 83 87 tc' ∧ tc' 5 = .slice (some ⟨gm, 0, none⟩) (legal an lo hi h).length cm ∧ tc' 72 = .slice (some ⟨bd, 0, none⟩) n n ∧ tc' 78 = .int .i64 (IntKind.i64.wrap (tn + 1)) ∧ tc' 82 = .int .i64 (((pl + 1) % n : Nat) : Int) ∧ tc' 84 = .int .i64 (IntKind.i64.wrap (dn + 1)) ∧
      wx.rowIs bd 41 (n * 2) (updf (updf mkr (pl * 2) (.int .i8 (m.1 : Int))) (pl * 2 + 1) (.bool m.2)) ∧ wx.rowIs bc 48 5 (chc k 1 pl (.slice (some ⟨gs, 0, none⟩) (legal an lo hi h).length cs) (.pointer (some ⟨bT, 0, none⟩))) ∧
      (∀ j u, (mvCells (legal an lo hi h))[j]? = some u → wx.cell? ⟨gm, j, none⟩ = some u) ∧ (∀ j u, (mvCells (legal an lo hi h))[j]? = some u → wx.cell? ⟨gs, j, none⟩ = some u) ∧ (∀ j u, (mvCells (legal an lo hi h))[j]? = some u → wx.cell? ⟨gw, j, none⟩ = some u) ∧
      wx.cell? ⟨bm, 0, none⟩ = some (.int .i8 3) ∧ wx.cell? ⟨bm, 1, none⟩ = some (.bool true))
    case first =>
      go_wp2_with fail
      refine (bidTurn_any _ bT bG bP bp bl bd bc n pl lo hi h k an dn tn tc mkr W2 F.out.1 F.out.2.1 hn hpl hlo hhi hh hlh hlh2 hk).mono ?_
      rintro e w5 ⟨rfl, mv, seen, m, x1, x2, x3, x4, x5, x6, y1, y2, y3, y4, y5⟩
      obtain ⟨_, _, bel2, o2, k0, k1, sz2, lT, lm, z1, z2, z3, z4, z5⟩ := F.out
      obtain ⟨gm, cm, rfl, _, _, om⟩ := x5.at hL0
      obtain ⟨gs, cs, rfl, _, _, os⟩ := x6.at hL0
      have R : Hid (∃ gm cm gs cs tc' m, Below A w0 w5 ∧ A ≤ w5.heap.size ∧ (legal an lo hi h)[k % (legal an lo hi h).length]? = some m ∧
          w5.rowIs bT 83 87 tc' ∧ tc' 5 = .slice (some ⟨gm, 0, none⟩) (legal an lo hi h).length cm ∧ tc' 72 = .slice (some ⟨bd, 0, none⟩) n n ∧ tc' 78 = .int .i64 (IntKind.i64.wrap (tn + 1)) ∧ tc' 82 = .int .i64 (((pl + 1) % n : Nat) : Int) ∧ tc' 84 = .int .i64 (IntKind.i64.wrap (dn + 1)) ∧
          w5.rowIs bd 41 (n * 2) (updf (updf mkr (pl * 2) (.int .i8 (m.1 : Int))) (pl * 2 + 1) (.bool m.2)) ∧ w5.rowIs bc 48 5 (chc k 1 pl (.slice (some ⟨gs, 0, none⟩) (legal an lo hi h).length cs) (.pointer (some ⟨bT, 0, none⟩))) ∧
          (∀ j u, (mvCells (legal an lo hi h))[j]? = some u → w5.cell? ⟨gm, j, none⟩ = some u) ∧ (∀ j u, (mvCells (legal an lo hi h))[j]? = some u → w5.cell? ⟨gs, j, none⟩ = some u) ∧ (∀ j u, (mvCells (legal an lo hi h))[j]? = some u → w5.cell? ⟨gw, j, none⟩ = some u) ∧
          w5.cell? ⟨bm, 0, none⟩ = some (.int .i8 3) ∧ w5.cell? ⟨bm, 1, none⟩ = some (.bool true)) := by
        refine ⟨gm, cm, gs, cs, _, m, bel2.trans ⟨y1, y2, y3, y4, fun b hb => y5 b (by omega) (by omega) (by omega) (by omega)⟩, by omega, x1, x2, rfl, t72, rfl, rfl, rfl, x3, x4, om, os, ?_, ?_, ?_⟩
        · intro j u hj
          obtain ⟨c1, c2⟩ := o2 j u hj
          exact (World.cell?_of_block (w := W2) (a := ⟨gw, j, none⟩) (y5 gw (by omega) n7 r6 s6)).trans c1
        · exact (World.cell?_of_block (w := W2) (a := ⟨bm, 0, none⟩) (y5 bm (by omega) n6 r5 s5)).trans k0
        · exact (World.cell?_of_block (w := W2) (a := ⟨bm, 1, none⟩) (y5 bm (by omega) n6 r5 s5)).trans k1
      clear x1 x2 x3 x4 x5 x6 y1 y2 y3 y4 y5 om os o2 k0 k1 bel2
      obtain ⟨bo, hbo⟩ : ∃ b, b = (IntKind.i64.wrap (dn + 1) == (n : Int)) := ⟨_, rfl⟩
      rw [← hbo]
      have HBO := (show Hid _ from hbo)
      clear hbo
      go_wp2_with fail
      go_meet
      case rel => exact ⟨by rw [HBO.out], R.out⟩
    case rest =>
      obtain ⟨rfl, gm, cm, gs, cs, tc', m, a1, a2, a3, a4, a5, a6, a7, a8, a9, b1, b2, b3, b4, b5, b6, b7⟩ := hcut
      refine ‹∀ (a : Act) (w : World), Code.wp Ybad.prog _ _ a w → _› _ _ ?_
      exact law20 (nx := (pl + 1) % n) a1 a2 hn hpl hk hL0 hL1 a3 rfl a4 a5 a6 a7 a8 a9 b1 mkr_at b2 b3 b4 b5 b6 b7
end Go.Proofs.YbulkbldsDoor
