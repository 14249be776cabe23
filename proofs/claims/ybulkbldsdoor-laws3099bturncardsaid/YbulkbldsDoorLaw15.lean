import Derived.Test.YbulkbldsDoorTurn
import Derived.Test.YbulkbldsDoorLaw16
namespace Go.Proofs.YbulkbldsDoor
open Go.RowKit

theorem mk69 (n : Nat) (hn : n ≤ 8) (w : World) : (Instr.makeSlice 69 (.int .i64 (n : Int)) (.int .i64 (n : Int))).run Ybad.prog w = .ok (.slice (some ⟨w.heap.size, 0, none⟩) n n) (w.alloc (.cells (madeCells #[.nilIface] n) 85)) :=
  run_make_row' (P := Ybad.prog) 69 85 .nilIface 16 Ybad.underlying69 (by kernel_rfl) rfl .i64 .i64 n (by omega) (by omega) w

theorem mkAny (t e sz by_ : Nat) (ht : Ybad.prog.underlying t = some (.slice e)) (hinfo : (Ybad.prog.info? e).map (fun i => (i.zero.isSome, i.size, i.bytes)) = some (true, sz, by_)) (hb : by_ ≤ 1000) (n : Nat) (hn : n ≤ 8) :
    ∃ cs : Array Value, cs.size = n * sz ∧ ∀ w, (Instr.makeSlice t (.int .i64 (n : Int)) (.int .i64 (n : Int))).run Ybad.prog w = .ok (.slice (some ⟨w.heap.size, 0, none⟩) n n) (w.alloc (.cells cs e)) := by
  obtain ⟨i, hi, hzz⟩ := Option.map_eq_some_iff.1 hinfo
  simp only [Prod.mk.injEq] at hzz
  obtain ⟨hz0, hz1, hz2⟩ := hzz
  obtain ⟨z, hz⟩ := Option.isSome_iff_exists.1 hz0
  have hbn : by_ * n ≤ 1000 * 8 := Nat.mul_le_mul hb hn
  refine ⟨madeCells z.cells (n * sz), by rw [size_madeCells], fun w => ?_⟩
  have h := run_make (P := Ybad.prog) w t e i z ht hi hz .i64 .i64 (n : Int) (n : Int) (by omega) (by omega) (by rw [hz2]; omega) (by omega)
  rw [hz1] at h
  exact h
theorem mk71 (n : Nat) (hn : n ≤ 8) : ∃ cs : Array Value, cs.size = n * 2 ∧ ∀ w, (Instr.makeSlice 71 (.int .i64 (n : Int)) (.int .i64 (n : Int))).run Ybad.prog w = .ok (.slice (some ⟨w.heap.size, 0, none⟩) n n) (w.alloc (.cells cs 41)) :=
  mkAny 71 41 2 2 Ybad.underlying71 (by kernel_rfl) (by omega) n hn
theorem mk70 (n : Nat) (hn : n ≤ 8) : ∃ cs : Array Value, cs.size = n * 54 ∧ ∀ w, (Instr.makeSlice 70 (.int .i64 (n : Int)) (.int .i64 (n : Int))).run Ybad.prog w = .ok (.slice (some ⟨w.heap.size, 0, none⟩) n n) (w.alloc (.cells cs 79)) :=
  mkAny 70 79 54 72 Ybad.underlying70 (by kernel_rfl) (by omega) n hn

def bld83 (parts : Array (Nat × Value)) := Instr.build 83 parts
theorem hide83 (parts : Array (Nat × Value)) : Instr.build 83 parts = bld83 parts := rfl
def bld68 (parts : Array (Nat × Value)) := Instr.build 68 parts
theorem hide68 (parts : Array (Nat × Value)) : Instr.build 68 parts = bld68 parts := rfl
def aggOf : Result Value → Array Value
  | .ok (.agg cs) _ => cs
  | _ => #[]
set_option maxRecDepth 100000 in
def tabC (P : Program) (w : World) (G p l d : Addr) (n : Nat) (pl : Nat) (dn tn : Int) : Array Value := aggOf ((bld83 #[(0, .pointer (some G)), (3, .slice (some p) n n), (12, .slice (some l) n n), (19, .slice (some d) n n), (29, .int .i64 (pl : Int)), (31, .int .i64 dn), (25, .int .i64 tn)]).run P w)
set_option maxRecDepth 100000 in
def genC (P : Program) (w : World) (n : Nat) : Array Value := aggOf ((bld68 #[(2, .int .i64 (n : Int))]).run P w)
theorem run83 (w0 w : World) (G p l d : Addr) (n : Nat) (pl : Nat) (dn tn : Int) : (bld83 #[(0, .pointer (some G)), (3, .slice (some p) n n), (12, .slice (some l) n n), (19, .slice (some d) n n), (29, .int .i64 (pl : Int)), (31, .int .i64 dn), (25, .int .i64 tn)]).run Ybad.prog w = .ok (.agg (tabC Ybad.prog w0 G p l d n pl dn tn)) w := by kernel_rfl
theorem run68 (w0 w : World) (n : Nat) : (bld68 #[(2, .int .i64 (n : Int))]).run Ybad.prog w = .ok (.agg (genC Ybad.prog w0 n)) w := by kernel_rfl
theorem box83 (w0 w : World) (G p l d : Addr) (n : Nat) (pl : Nat) (dn tn : Int) : (Instr.box 83 (.agg (tabC Ybad.prog w0 G p l d n pl dn tn))).run Ybad.prog w = .ok (.pointer (some ⟨w.heap.size, 0, none⟩)) (w.alloc (.cells (tabC Ybad.prog w0 G p l d n pl dn tn) 83)) := by kernel_rfl
theorem box68 (w0 w : World) (n : Nat) : (Instr.box 68 (.agg (genC Ybad.prog w0 n))).run Ybad.prog w = .ok (.pointer (some ⟨w.heap.size, 0, none⟩)) (w.alloc (.cells (genC Ybad.prog w0 n) 68)) := by kernel_rfl
theorem tabC_at (w0 : World) (G p l d : Addr) (n : Nat) (pl : Nat) (dn tn : Int) : (tabC Ybad.prog w0 G p l d n pl dn tn).size = 87 ∧ (tabC Ybad.prog w0 G p l d n pl dn tn)[0]? = some (.pointer (some G)) ∧ (tabC Ybad.prog w0 G p l d n pl dn tn)[2]? = some (.pointer none) ∧ (tabC Ybad.prog w0 G p l d n pl dn tn)[3]? = some (.slice (some p) n n) ∧ (tabC Ybad.prog w0 G p l d n pl dn tn)[5]? = some (.slice none 0 0) ∧ (tabC Ybad.prog w0 G p l d n pl dn tn)[12]? = some (.slice (some l) n n) ∧ (tabC Ybad.prog w0 G p l d n pl dn tn)[72]? = some (.slice (some d) n n) ∧ (tabC Ybad.prog w0 G p l d n pl dn tn)[78]? = some (.int .i64 tn) ∧ (tabC Ybad.prog w0 G p l d n pl dn tn)[82]? = some (.int .i64 pl) ∧ (tabC Ybad.prog w0 G p l d n pl dn tn)[84]? = some (.int .i64 dn) :=
  ⟨by kernel_rfl, by kernel_rfl, by kernel_rfl, by kernel_rfl, by kernel_rfl, by kernel_rfl, by kernel_rfl, by kernel_rfl, by kernel_rfl, by kernel_rfl⟩
theorem genC_at (w0 : World) (n : Nat) : (genC Ybad.prog w0 n)[2]? = some (.int .i64 (n : Int)) := by kernel_rfl

theorem heapNewM (w : World) (o : Obj) : (w.alloc o).heap[w.heap.size]? = some o := by
  show (w.heap.push o)[w.heap.size]? = _
  simp
theorem szM (w : World) (o : Obj) : (w.alloc o).heap.size = w.heap.size + 1 := by simp

theorem five (W : World) (o1 o2 o3 o4 o5 : Obj) : (((((W.alloc o1).alloc o2).alloc o3).alloc o4).alloc o5).drew.heap[W.heap.size]? = some o1 ∧ (((((W.alloc o1).alloc o2).alloc o3).alloc o4).alloc o5).drew.heap[W.heap.size + 1]? = some o2 ∧ (((((W.alloc o1).alloc o2).alloc o3).alloc o4).alloc o5).drew.heap[W.heap.size + 1 + 1]? = some o3 ∧ (((((W.alloc o1).alloc o2).alloc o3).alloc o4).alloc o5).drew.heap[W.heap.size + 1 + 1 + 1]? = some o4 ∧ (((((W.alloc o1).alloc o2).alloc o3).alloc o4).alloc o5).drew.heap[W.heap.size + 1 + 1 + 1 + 1]? = some o5 ∧ Below W.heap.size W (((((W.alloc o1).alloc o2).alloc o3).alloc o4).alloc o5).drew := by
  have e1 := szM W o1
  have e2 := szM (W.alloc o1) o2
  have e3 := szM ((W.alloc o1).alloc o2) o3
  have e4 := szM (((W.alloc o1).alloc o2).alloc o3) o4
  have n1 := heapNewM W o1
  have n2 := heapNewM (W.alloc o1) o2
  have n3 := heapNewM ((W.alloc o1).alloc o2) o3
  have n4 := heapNewM (((W.alloc o1).alloc o2).alloc o3) o4
  have n5 := heapNewM ((((W.alloc o1).alloc o2).alloc o3).alloc o4) o5
  rw [e1] at n2
  rw [e2, e1] at n3
  rw [e3, e2, e1] at n4
  rw [e4, e3, e2, e1] at n5
  refine ⟨?_, ?_, ?_, ?_, n5, ?_⟩
  · exact (Below.heap_alloc _ _ _ (by omega)).trans ((Below.heap_alloc _ _ _ (by omega)).trans ((Below.heap_alloc _ _ _ (by omega)).trans ((Below.heap_alloc _ _ _ (by omega)).trans n1)))
  · exact (Below.heap_alloc _ _ _ (by omega)).trans ((Below.heap_alloc _ _ _ (by omega)).trans ((Below.heap_alloc _ _ _ (by omega)).trans n2))
  · exact (Below.heap_alloc _ _ _ (by omega)).trans ((Below.heap_alloc _ _ _ (by omega)).trans n3)
  · exact (Below.heap_alloc _ _ _ (by omega)).trans n4
  · have b4 : Below W.heap.size W ((((W.alloc o1).alloc o2).alloc o3).alloc o4) := ((((Below.refl _ W).alloc (Nat.le_refl _) o1).alloc (by omega) o2).alloc (by omega) o3).alloc (by omega) o4
    have b5 := b4.alloc (by omega) o5
    exact ⟨b5.os, b5.tape, b5.output, b5.size, b5.block⟩

theorem row_of_heap {w : World} {b t n : Nat} {cs : Array Value} (h : w.heap[b]? = some (.cells cs t (0, 0))) (hs : cs.size = n) : w.rowIs b t n (fun i => (cs[i]?).getD .nilIface) :=
  ⟨cs, h, hs, fun i hi => by simp only []; rw [Array.getElem?_eq_getElem (by omega)]; rfl⟩

/-- What the table's making leaves. -/
structure Made (c70 c71 : Array Value) (n pl : Nat) (dn tn : Int) (W : World) (bT : Nat) (wx : World) : Prop where
  ex : ∃ (bG bp bl bd : Nat), wx.heap[bT]? = some (.cells (tabC Ybad.prog W ⟨bG, 0, none⟩ ⟨bp, 0, none⟩ ⟨bl, 0, none⟩ ⟨bd, 0, none⟩ n pl dn tn) 83 (0, 0)) ∧ wx.heap[bG]? = some (.cells (genC Ybad.prog W n) 68 (0, 0)) ∧ wx.heap[bp]? = some (.cells (madeCells #[.nilIface] n) 85 (0, 0)) ∧ wx.heap[bl]? = some (.cells c70 79 (0, 0)) ∧ wx.heap[bd]? = some (.cells c71 41 (0, 0)) ∧
    bT = W.heap.size + 4 ∧ (W.heap.size ≤ bG ∧ W.heap.size ≤ bp ∧ W.heap.size ≤ bl ∧ W.heap.size ≤ bd ∧ bG < bT ∧ bp < bT ∧ bl < bT ∧ bd < bT ∧ bG ≠ bp ∧ bG ≠ bl ∧ bG ≠ bd ∧ bp ≠ bl ∧ bp ≠ bd ∧ bl ≠ bd)
  bel : Below W.heap.size W wx

attribute [local go_sem ↓] hide83 hide68
set_option maxRecDepth 1000000 in
set_option maxHeartbeats 20000000 in
theorem law15 {w0 W : World} {A bc bm n pl lo hi h k gw cw : Nat} {an : Bool} {dn tn : Int}
    (bel : Below A w0 W) (hn : n ≤ 8) (hpl : pl < n) (hk : k ≤ 255) (hlo : lo ≤ 13) (hhi : hi ≤ 26) (hh : h ≤ 52) (hlh : lo ≤ hi) (hlh2 : lo ≤ h)
    (C : W.rowIs bc 48 5 (chc k 0 0 (.slice none 0 0) (.pointer none)))
    (m0 : W.cell? ⟨bm, 0, none⟩ = some (.int .i8 3)) (m1 : W.cell? ⟨bm, 1, none⟩ = some (.bool true)) (ow : ∀ j u, (mvCells (legal an lo hi h))[j]? = some u → W.cell? ⟨gw, j, none⟩ = some u)
    (s5 : bm ≠ bc) (s6 : gw ≠ bc) (hAc : A ≤ bc) (lgw : gw < W.heap.size)
    {y0 y1 y2 y3 y4 y9 y10 y11 y12 y13 y14 y15 y16 y17 y18 y24 y26 y27 y30 y31 y32 y33 y34 y35 y36 y37 y38 y39 y40 y41 y42 y43 y44 y45 y46 y47 y48 y49 y50 y51 y52 y53 y54 y55 y56 y57 y58 y59 y60 y61 y62 y63 y64 y65 y66 y67 y68 y69 y70 y71 y72 y73 y74 y75 y76 y77 y78 y79 y80 y81 y82 y83 y84 y85 y86 y87 y88 y89 y90 y91 y92 y93 y94 y95 y96 y97 y98 y99 y100 y101 y102 y103 y104 y105 y106 y107 y108 y109 y110 y111 y112 y113 y114 y115 y116 y117 y118 y119 y120 y121 y122 y123 y124 y125 y126 y127 y128 y129 y130 y131 y132 y133 y134 y135 y136 y137 y138 y139 y140 y141 y142 y143 y144 y145 y146 y147 y148 y149 y150 y151 y152 y153 y154 y155 y156 y157 y158 y159 y160 y161 y162 y163 y164 y165 y166 y167 y168 y169 y170 y171 y172 y173 y174 y175 y176 y177 y178 y179 y180 y181 y182 y183 y184 y185 y186 y187 y188 y189 y190 y191 y192 y193 y194 y195 y196 y197 y198 y199 y200 y201 y202 y203 y204 y205 y206 y207 y208 y209 y210 y211 y212 y213 y214 y215 y216 y217 y218 y219 y220 y221 y222 y223 y224 y225 y226 y227 y228 y229 y230 y231 y232 y233 y234 y235 y236 y237 y238 y239 y240 y241 y242 y243 y244 y245 y246 y247 y248 y249 y250 y251 y252 y253 y254 y255 y256 y257 y258 y259 y260 : Value} :
    Code.wp Ybad.prog (tlM 15 (Ybad.f6.body.getD .skip)) (bodyPost Ybad.prog Ybad.f6 fun e w' => e = .returned (.bool true) ∧ Below A w0 w') ⟨#[y0, y1, y2, y3, y4, .bool an, .int .u8 (k : Int), .int .i64 dn, .int .i64 tn, y9, y10, y11, y12, y13, y14, y15, y16, y17, y18, .int .i64 (n : Int), .int .i64 (pl : Int), .int .i64 (lo : Int), .int .i64 (hi : Int), .int .i64 (h : Int), y24, .slice (some ⟨gw, 0, none⟩) (legal an lo hi h).length cw, y26, y27, .pointer (some ⟨bm, 0, none⟩), .pointer (some ⟨bc, 0, none⟩), y30, y31, y32, y33, y34, y35, y36, y37, y38, y39, y40, y41, y42, y43, y44, y45, y46, y47, y48, y49, y50, y51, y52, y53, y54, y55, y56, y57, y58, y59, y60, y61, y62, y63, y64, y65, y66, y67, y68, y69, y70, y71, y72, y73, y74, y75, y76, y77, y78, y79, y80, y81, y82, y83, y84, y85, y86, y87, y88, y89, y90, y91, y92, y93, y94, y95, y96, y97, y98, y99, y100, y101, y102, y103, y104, y105, y106, y107, y108, y109, y110, y111, y112, y113, y114, y115, y116, y117, y118, y119, y120, y121, y122, y123, y124, y125, y126, y127, y128, y129, y130, y131, y132, y133, y134, y135, y136, y137, y138, y139, y140, y141, y142, y143, y144, y145, y146, y147, y148, y149, y150, y151, y152, y153, y154, y155, y156, y157, y158, y159, y160, y161, y162, y163, y164, y165, y166, y167, y168, y169, y170, y171, y172, y173, y174, y175, y176, y177, y178, y179, y180, y181, y182, y183, y184, y185, y186, y187, y188, y189, y190, y191, y192, y193, y194, y195, y196, y197, y198, y199, y200, y201, y202, y203, y204, y205, y206, y207, y208, y209, y210, y211, y212, y213, y214, y215, y216, y217, y218, y219, y220, y221, y222, y223, y224, y225, y226, y227, y228, y229, y230, y231, y232, y233, y234, y235, y236, y237, y238, y239, y240, y241, y242, y243, y244, y245, y246, y247, y248, y249, y250, y251, y252, y253, y254, y255, y256, y257, y258, y259, y260], []⟩ W := by
  conv => arg 2; whnf
  have h69 := mk69 n hn
  obtain ⟨c71, s71, h71⟩ := mk71 n hn
  obtain ⟨c70, s70, h70⟩ := mk70 n hn
  have h83 := run83 W
  have h68 := run68 W
  have x83 := box83 W
  have x68 := box68 W
  have HB : Hid (Below A w0 W) := bel
  have HC : Hid (W.rowIs bc 48 5 (chc k 0 0 (.slice none 0 0) (.pointer none))) := C
  have HO := (show Hid _ from ow)
  have H7 : Hid (c71.size = n * 2 ∧ c70.size = n * 54) := ⟨s71, s70⟩
  clear bel C ow s71 s70
  go_wp2_with fail
  go_cut [30] from 110 to 111 (fun s30 wx => ∃ bT, s30 = .pointer (some ⟨bT, 0, none⟩) ∧ Made c70 c71 n pl dn tn W bT wx)
  case first =>
    go_region
    all_goals
      go_wp2_with fail
      go_meet
      case rel =>
        obtain ⟨f1, f2, f3, f4, f5, f6⟩ := five W _ _ _ _ _
        exact ⟨_, rfl, ⟨_, _, _, _, f5, by assumption, by assumption, by assumption, by assumption, rfl, by omega⟩, f6⟩
  case rest =>
    obtain ⟨bT, rfl, ⟨bG, bp, bl, bd, f0, f1, f2, f3, f4, eT, d1, d2, d3, d4, d5, d6, d7, d8, d9, d10, d11, d12, d13, d14⟩, bel2⟩ := hcut
    obtain ⟨q0, q1, q2, q3, q4, q5, q6, q7, q8, q9⟩ := tabC_at W ⟨bG, 0, none⟩ ⟨bp, 0, none⟩ ⟨bl, 0, none⟩ ⟨bd, 0, none⟩ n pl dn tn
    have lc := World.rowIs.lt HC.out
    have lm : bm < W.heap.size := cell_ltM m0
    have hA : A ≤ W.heap.size := by omega
    refine ‹∀ (a : Act) (w : World), Code.wp Ybad.prog _ _ a w → _› _ _ ?_
    refine law16 (bT := bT) (bG := bG) (bp := bp) (bl := bl) (bd := bd) (bc := bc) (bm := bm) (tc := fun i => ((tabC Ybad.prog W ⟨bG, 0, none⟩ ⟨bp, 0, none⟩ ⟨bl, 0, none⟩ ⟨bd, 0, none⟩ n pl dn tn)[i]?).getD .nilIface) (pf := fun i => (c70[i]?).getD .nilIface) (df := fun i => (c71[i]?).getD .nilIface) ?_ hn hpl hk hlo hhi hh hlh hlh2 (row_of_heap f0 q0) ?_ ?_ ?_ ?_ ?_ ?_ ?_ ?_ ?_ ?_ ?_ (row_of_heap f3 H7.out.2) (row_of_heap f4 H7.out.1) ?_ ?_ ?_ ?_ ?_ ?_
    · exact HB.out.trans ⟨bel2.os, bel2.tape, bel2.output, bel2.size, fun b hb => bel2.block b (by omega)⟩
    · show Option.getD _ _ = _; rw [q1]; rfl
    · show Option.getD _ _ = _; rw [q2]; rfl
    · show Option.getD _ _ = _; rw [q3]; rfl
    · show Option.getD _ _ = _; rw [q4]; rfl
    · show Option.getD _ _ = _; rw [q5]; rfl
    · show Option.getD _ _ = _; rw [q6]; rfl
    · show Option.getD _ _ = _; rw [q7]; rfl
    · show Option.getD _ _ = _; rw [q8]; rfl
    · show Option.getD _ _ = _; rw [q9]; rfl
    · unfold World.cell?; simp only [f1]; exact genC_at W n
    · exact ⟨_, f2, size_madeCells _ _, fun i hi => by simp [madeCells, hi, Nat.mod_one]⟩
    · exact World.rowIs.of_block HC.out (bel2.block bc lc)
    · exact (World.cell?_of_block (w := W) (a := ⟨bm, 0, none⟩) (bel2.block bm lm)).trans m0
    · exact (World.cell?_of_block (w := W) (a := ⟨bm, 1, none⟩) (bel2.block bm lm)).trans m1
    · exact fun j u hj => (World.cell?_of_block (w := W) (a := ⟨gw, j, none⟩) (bel2.block gw lgw)).trans (HO.out j u hj)
    · constructor <;> omega
    · omega
end Go.Proofs.YbulkbldsDoor
