/-
  bidTurn.
-/
import Derived.Test.YbulkbldsDoorCh
namespace Go.Proofs.YbulkbldsDoor
open Go.RowKit

/-- What bidTurn finds. -/
structure BT (B bT bG bP bp bl bd bc n pl lo hi h k : Nat) (an : Bool) (dn tn : Int) (tc bf : Nat → Value) (w : World) : Prop where
  T : w.rowIs bT 83 87 tc
  t0 : tc 0 = .pointer (some ⟨bG, 0, none⟩)
  t2 : tc 2 = .pointer none
  t3 : tc 3 = .slice (some ⟨bp, 0, none⟩) n n
  t5 : tc 5 = .slice none 0 0
  t12 : tc 12 = .slice (some ⟨bl, 0, none⟩) n n
  t72 : tc 72 = .slice (some ⟨bd, 0, none⟩) n n
  t78 : tc 78 = .int .i64 tn
  t82 : tc 82 = .int .i64 pl
  t84 : tc 84 = .int .i64 dn
  g2 : w.cell? ⟨bG, 2, none⟩ = some (.int .i64 n)
  p6 : w.cell? ⟨bP, 6, none⟩ = some (.int .i64 lo)
  p7 : w.cell? ⟨bP, 7, none⟩ = some (.int .i64 hi)
  p8 : w.cell? ⟨bP, 8, none⟩ = some (.bool an)
  l1 : w.cell? ⟨bl, pl * 54 + 53, none⟩ = some (.int .i64 h)
  q1 : w.cell? ⟨bp, pl, none⟩ = some (.iface 45 (.pointer (some ⟨bc, 0, none⟩)))
  d : w.rowIs bd 41 (n * 2) bf
  c : w.rowIs bc 48 5 (chc k 0 0 (.slice none 0 0) (.pointer none))
  hB : B ≤ w.heap.size

/-- The blocks lie apart, below B. -/
structure PlT (B bT bG bP bp bl bd bc : Nat) : Prop where
  a1 : bT < B
  a2 : bG < B
  a3 : bP < B
  a4 : bp < B
  a5 : bl < B
  a6 : bd < B
  a7 : bc < B
  n1 : bG ≠ bT
  n2 : bP ≠ bT
  n3 : bp ≠ bT
  n4 : bl ≠ bT
  n5 : bd ≠ bT
  n6 : bc ≠ bT
  n7 : bd ≠ bc
  n8 : bG ≠ bc
  n9 : bG ≠ bd

/-- The legal bids. -/
def legal (an : Bool) (lo hi h : Nat) : List Mv := (if an then [(0, true)] else []) ++ bids (if an then max lo 1 else lo) (min hi h + 1 - (if an then max lo 1 else lo))

theorem legal_pos (an : Bool) (lo hi h : Nat) (h1 : lo ≤ hi) (h2 : lo ≤ h) : 0 < (legal an lo hi h).length := by
  unfold legal
  cases an
  · simp [bids_len]; omega
  · simp

theorem legal_len (an : Bool) (lo hi h : Nat) (h1 : hi ≤ 26) : (legal an lo hi h).length ≤ 40 := by
  unfold legal
  cases an
  · simp [bids_len]; omega
  · simp [bids_len]; omega

theorem But1.undrew {b : Nat} {w w' : World} (h : But1 w.drew.heap.size b w.drew w') : But1 w.heap.size b w w' := ⟨h.os, h.tape, h.output, h.size, h.block⟩

theorem turn_facts {B bT bG bP bp bl bd bc n pl g cp N r : Nat} {tc bf : Nat → Value} {w0 w1 w2 : World} {L : List Mv} {m : Mv} (P : PlT B bT bG bP bp bl bd bc) (hB : B ≤ w1.heap.size) (hpl : pl < n) (M : MS B bT tc w0 (.slice (some ⟨g, 0, none⟩) L.length cp) L w1) (D : w1.rowIs bd 41 (n * 2) bf)
    (hb : But1 w1.heap.size bc w1 w2) (ho : OwnsM B (.slice (some ⟨g, 0, none⟩) N cp) L w2) (h2 : (mvCells L)[r * 3 + 1]? = some (.int .i8 (m.1 : Int))) (h3 : (mvCells L)[r * 3 + 2]? = some (.bool m.2)) (hN : N = L.length) :
    w2.cell? ⟨bT, 5, none⟩ = some (.slice (some ⟨g, 0, none⟩) N cp) ∧ w2.cell? ⟨g, r * 3 + 1, none⟩ = some (.int .i8 (m.1 : Int)) ∧ w2.cell? ⟨g, r * 3 + 2, none⟩ = some (.bool m.2) ∧
      w2.cell? ⟨bd, pl * 2, none⟩ = some (bf (pl * 2)) ∧ w2.cell? ⟨bd, pl * 2 + 1, none⟩ = some (bf (pl * 2 + 1)) ∧ w2.frozen? ⟨bd, pl * 2, none⟩ = false ∧ w2.frozen? ⟨bd, pl * 2 + 1, none⟩ = false := by
  have p1 := P.a1; have p6 := P.a6
  have D2 := World.rowIs.of_block D (hb.block bd (by omega) P.n7)
  have hg : ∀ j u, (mvCells L)[j]? = some u → w2.cell? ⟨g, j, none⟩ = some u := fun j u hj => by
    have h := World.ownsRow.cells ho (g := g) rfl j u hj
    rw [Lib.add_plain, Nat.zero_add] at h
    exact h
  refine ⟨?_, hg _ _ h2, hg _ _ h3, D2.cell (by omega), D2.cell (by omega), D2.frozen _, D2.frozen _⟩
  rw [World.cell?_of_block (w := w1) (hb.block bT (by omega) P.n6.symm), hN]
  exact M.c5

theorem ownsM_below {B : Nat} {v : Value} {l : List Mv} {w w' : World} (h : OwnsM B v l w) (hb : Below w.heap.size w w') : OwnsM B v l w' := by
  obtain ⟨x1, x2 | ⟨g, cap, cur, e1, e2, e3, e4⟩⟩ := h
  · exact ⟨x1, .inl x2⟩
  · have hg : g < w.heap.size := by
      rcases Nat.lt_or_ge g w.heap.size with h2 | h2
      · exact h2
      · rw [Array.getElem?_eq_none h2] at e3; cases e3
    exact ⟨x1, .inr ⟨g, cap, cur, e1, e2, (hb.block g hg).trans e3, e4⟩⟩

theorem far2 {w : World} {b d i x y : Nat} {u v s : Value} (h : w.cell? ⟨b, i, none⟩ = some s) (hn : d ≠ b) : ((w.setCell ⟨d, x, none⟩ u).setCell ⟨d, y, none⟩ v).cell? ⟨b, i, none⟩ = some s :=
  (World.cell?_of_block (w := w) ((Below.heap_setCell _ _ _ _ (fun e => hn e.symm)).trans (Below.heap_setCell _ _ _ _ (fun e => hn e.symm)))).trans h

theorem turn_after {B bT bG bP bp bl bd bc n pl k : Nat} {mv seen : Value} {tc bf : Nat → Value} {w0 w1 w2 : World} {L : List Mv} (P : PlT B bT bG bP bp bl bd bc) (hB : B ≤ w1.heap.size) (M : MS B bT tc w0 mv L w1) (D : w1.rowIs bd 41 (n * 2) bf)
    (R1 : w2.rowIs bc 48 5 (chc k 1 pl seen (.pointer (some ⟨bT, 0, none⟩)))) (R2 : OwnsM B seen L w2) (R3 : OwnsM B mv L w2) (R4 : But1 w1.heap.size bc w1 w2) (m : Mv) :
    ∃ seen, ((w2.setCell ⟨bd, pl * 2, none⟩ (.int .i8 (m.1 : Int))).setCell ⟨bd, pl * 2 + 1, none⟩ (.bool m.2)).rowIs bT 83 87 (updf tc 5 mv) ∧ ((w2.setCell ⟨bd, pl * 2, none⟩ (.int .i8 (m.1 : Int))).setCell ⟨bd, pl * 2 + 1, none⟩ (.bool m.2)).rowIs bd 41 (n * 2) (updf (updf bf (pl * 2) (.int .i8 (m.1 : Int))) (pl * 2 + 1) (.bool m.2)) ∧
      ((w2.setCell ⟨bd, pl * 2, none⟩ (.int .i8 (m.1 : Int))).setCell ⟨bd, pl * 2 + 1, none⟩ (.bool m.2)).rowIs bc 48 5 (chc k 1 pl seen (.pointer (some ⟨bT, 0, none⟩))) ∧ OwnsM B mv L ((w2.setCell ⟨bd, pl * 2, none⟩ (.int .i8 (m.1 : Int))).setCell ⟨bd, pl * 2 + 1, none⟩ (.bool m.2)) ∧ OwnsM B seen L ((w2.setCell ⟨bd, pl * 2, none⟩ (.int .i8 (m.1 : Int))).setCell ⟨bd, pl * 2 + 1, none⟩ (.bool m.2)) ∧
      (((w2.setCell ⟨bd, pl * 2, none⟩ (.int .i8 (m.1 : Int))).setCell ⟨bd, pl * 2 + 1, none⟩ (.bool m.2)).os = w1.os ∧ ((w2.setCell ⟨bd, pl * 2, none⟩ (.int .i8 (m.1 : Int))).setCell ⟨bd, pl * 2 + 1, none⟩ (.bool m.2)).tape = w1.tape ∧ ((w2.setCell ⟨bd, pl * 2, none⟩ (.int .i8 (m.1 : Int))).setCell ⟨bd, pl * 2 + 1, none⟩ (.bool m.2)).output = w1.output ∧
        w1.heap.size ≤ ((w2.setCell ⟨bd, pl * 2, none⟩ (.int .i8 (m.1 : Int))).setCell ⟨bd, pl * 2 + 1, none⟩ (.bool m.2)).heap.size ∧ ∀ j, j < B → j ≠ bT → j ≠ bd → j ≠ bc → ((w2.setCell ⟨bd, pl * 2, none⟩ (.int .i8 (m.1 : Int))).setCell ⟨bd, pl * 2 + 1, none⟩ (.bool m.2)).heap[j]? = w1.heap[j]?) := by
  have p1 := P.a1; have p6 := P.a6; have n5 := P.n5; have n6 := P.n6; have n7 := P.n7
  have bk : ∀ j, j ≠ bd → ((w2.setCell ⟨bd, pl * 2, none⟩ (.int .i8 (m.1 : Int))).setCell ⟨bd, pl * 2 + 1, none⟩ (.bool m.2)).heap[j]? = w2.heap[j]? := fun j hj => (Below.heap_setCell _ _ _ _ hj).trans (Below.heap_setCell _ _ _ _ hj)
  refine ⟨seen, World.rowIs.of_block M.tr ((bk bT n5.symm).trans (R4.block bT (by omega) n6.symm)), ?_, World.rowIs.of_block R1 (bk bc n7.symm), ownsRow_setCell_below (ownsRow_setCell_below R3 p6 _) p6 _, ownsRow_setCell_below (ownsRow_setCell_below R2 p6 _) p6 _, R4.os, R4.tape, R4.output, by simp; exact R4.size, fun j hj _ h2 h3 => (bk j h2).trans (R4.block j (by omega) h3)⟩
  have D2 := World.rowIs.of_block D (R4.block bd (by omega) n7)
  exact (D2.set _ _).set _ _ |>.congr (fun i _ => rfl)

theorem decide2 {B bT bG bP bp bl bd bc n pl k g cp N r : Nat} {tc bf : Nat → Value} {w0 w1 : World} {L : List Mv} {m : Mv} (P : PlT B bT bG bP bp bl bd bc) (hB : B ≤ w1.heap.size) (hpl : pl < n) (M : MS B bT tc w0 (.slice (some ⟨g, 0, none⟩) L.length cp) L w1) (D : w1.rowIs bd 41 (n * 2) bf)
    (C : w1.rowIs bc 48 5 (chc k 0 0 (.slice none 0 0) (.pointer none))) (hL0 : 0 < L.length) (hL1 : L.length ≤ 40) (hk : k ≤ 255) (x3 : w1.cell? ⟨bT, 3, none⟩ = some (.slice (some ⟨bp, 0, none⟩) n n)) (x72 : w1.cell? ⟨bT, 72, none⟩ = some (.slice (some ⟨bd, 0, none⟩) n n))
    (y1 : w1.cell? ⟨bp, pl, none⟩ = some (.iface 45 (.pointer (some ⟨bc, 0, none⟩)))) (h2 : (mvCells L)[r * 3 + 1]? = some (.int .i8 (m.1 : Int))) (h3 : (mvCells L)[r * 3 + 2]? = some (.bool m.2)) (hN : N = L.length) (hr : r = k % L.length) (q : Nat) :
    Calls Ybad.prog 21 #[.pointer (some ⟨bT, 0, none⟩), .int .i64 pl] (w1.drewN q) fun e w2 => e = .returned (.int .i64 (r : Int)) ∧ ∃ seen, w2.cell? ⟨bT, 72, none⟩ = some (.slice (some ⟨bd, 0, none⟩) n n) ∧ w2.cell? ⟨bT, 5, none⟩ = some (.slice (some ⟨g, 0, none⟩) N cp) ∧
      w2.cell? ⟨g, r * 3 + 1, none⟩ = some (.int .i8 (m.1 : Int)) ∧ w2.cell? ⟨g, r * 3 + 2, none⟩ = some (.bool m.2) ∧ w2.cell? ⟨bd, pl * 2, none⟩ = some (bf (pl * 2)) ∧ w2.cell? ⟨bd, pl * 2 + 1, none⟩ = some (bf (pl * 2 + 1)) ∧ w2.frozen? ⟨bd, pl * 2, none⟩ = false ∧ w2.frozen? ⟨bd, pl * 2 + 1, none⟩ = false ∧
      Hid (w2.rowIs bc 48 5 (chc k 1 pl seen (.pointer (some ⟨bT, 0, none⟩))) ∧ OwnsM B seen L w2 ∧ OwnsM B (.slice (some ⟨g, 0, none⟩) L.length cp) L w2 ∧ But1 w1.heap.size bc w1 w2) := by
  refine (decide_any B bc bT bp n k pl (.slice (some ⟨g, 0, none⟩) L.length cp) L (w1.drewN q) C M.own hL0 (by omega) hk P.a7 hB x3 M.c5 y1 hpl).mono ?_
  rintro e w2 ⟨rfl, seen, R1, R2, R3, R4⟩
  have R5 : But1 w1.heap.size bc w1 w2 := ⟨R4.os, R4.tape, R4.output, R4.size, R4.block⟩
  obtain ⟨z1, z2, z3, z4, z5, z6, z7⟩ := turn_facts P hB hpl M D R5 (by rw [hN]; exact R3) h2 h3 hN
  exact ⟨by rw [hr], seen, (World.cell?_of_block (w := w1) (R5.block bT (Nat.lt_of_lt_of_le P.a1 hB) P.n6.symm)).trans x72, z1, z2, z3, z4, z5, z6, z7, R1, R2, R3, R5⟩

set_option maxRecDepth 100000 in
set_option maxHeartbeats 2000000 in
theorem bidTurn_any (B bT bG bP bp bl bd bc n pl lo hi h k : Nat) (an : Bool) (dn tn : Int) (tc bf : Nat → Value) (w : World) (S : BT B bT bG bP bp bl bd bc n pl lo hi h k an dn tn tc bf w) (P : PlT B bT bG bP bp bl bd bc)
    (hn : n ≤ 8) (hpl : pl < n) (hlo : lo ≤ 13) (hhi : hi ≤ 26) (hh : h ≤ 52) (hlh : lo ≤ hi) (hlh2 : lo ≤ h) (hk : k ≤ 255) :
    Calls Ybad.prog 12 #[.pointer (some ⟨bT, 0, none⟩), .pointer (some ⟨bP, 0, none⟩)] w fun e w' => e = .returned (.bool (IntKind.i64.wrap (dn + 1) == (n : Int))) ∧
      ∃ mv seen m, (legal an lo hi h)[k % (legal an lo hi h).length]? = some m ∧ w'.rowIs bT 83 87 (updf (updf (updf (updf tc 5 mv) 78 (.int .i64 (IntKind.i64.wrap (tn + 1)))) 84 (.int .i64 (IntKind.i64.wrap (dn + 1)))) 82 (.int .i64 (((pl + 1) % n : Nat) : Int))) ∧
        w'.rowIs bd 41 (n * 2) (updf (updf bf (pl * 2) (.int .i8 (m.1 : Int))) (pl * 2 + 1) (.bool m.2)) ∧ w'.rowIs bc 48 5 (chc k 1 pl seen (.pointer (some ⟨bT, 0, none⟩))) ∧ OwnsM B mv (legal an lo hi h) w' ∧ OwnsM B seen (legal an lo hi h) w' ∧
        (w'.os = w.os ∧ w'.tape = w.tape ∧ w'.output = w.output ∧ w.heap.size ≤ w'.heap.size ∧ ∀ j, j < B → j ≠ bT → j ≠ bd → j ≠ bc → w'.heap[j]? = w.heap[j]?) := by
  have c82 := S.T.cell (i := 82) (by omega)
  rw [S.t82] at c82
  have HS := (show Hid _ from S)
  clear S
  obtain ⟨T', hT'⟩ : ∃ T', IntKind.i64.wrap (tn + 1) = T' := ⟨_, rfl⟩
  obtain ⟨D', hD'⟩ : ∃ D', IntKind.i64.wrap (dn + 1) = D' := ⟨_, rfl⟩
  rw [hT', hD']
  obtain ⟨nx, hnx⟩ : ∃ nx, nx = (pl + 1) % n := ⟨_, rfl⟩
  rw [← hnx]
  have HNX : Hid (nx = (pl + 1) % n) := hnx
  clear hnx
  have hL0 := legal_pos an lo hi h hlh hlh2
  have hL1 := legal_len an lo hi h hhi
  go_enter Ybad.func12, Ybad.ntmps12
  go_wp2_with fail
  have hS := HS.out
  refine (bidMoves_any B bT bP bl n pl lo hi h an tc w hS.T hS.t5 hS.t12 P.a1 hS.hB hS.p6 hS.p7 hS.p8 hpl hS.l1 hlo hhi hh P.n2).mono ?_
  rintro e w1 ⟨rfl, mv, M⟩
  change MS B bT tc w mv (legal an lo hi h) w1 at M
  obtain ⟨L, hL⟩ : ∃ L, L = legal an lo hi h := ⟨_, rfl⟩
  rw [← hL] at M hL0 hL1
  have HL : Hid (L = legal an lo hi h) := hL
  have blk1 : ∀ j, j < B → j ≠ bT → w1.heap[j]? = w.heap[j]? := M.but.block
  have C1 := World.rowIs.of_block hS.c (blk1 bc P.a7 P.n6)
  have D1 := World.rowIs.of_block hS.d (blk1 bd P.a6 P.n5)
  have x3 := (M.c 3 (by omega) (by omega)).trans (congrArg some hS.t3)
  have x72 := (M.c 72 (by omega) (by omega)).trans (congrArg some hS.t72)
  have x5 := M.c5
  have y1 : w1.cell? ⟨bp, pl, none⟩ = some (.iface 45 (.pointer (some ⟨bc, 0, none⟩))) := (World.cell?_of_block (w := w) (blk1 bp P.a4 P.n3)).trans hS.q1
  obtain ⟨g, cp, rfl, hgB, hgl, hgc⟩ := M.own.at hL0
  have H1 := (show Hid _ from And.intro M (And.intro C1 D1))
  have HB1 := (show Hid _ from M.but)
  have hM := M.hB
  clear M C1 D1 hL c82 hS
  obtain ⟨r, hr⟩ : ∃ r, r = k % L.length := ⟨_, rfl⟩
  have hrl : r < L.length := by rw [hr]; exact Nat.mod_lt _ hL0
  obtain ⟨m, hm⟩ : ∃ m, L[r]? = some m := ⟨_, List.getElem?_eq_getElem hrl⟩
  obtain ⟨_, m2, m3⟩ := mv_at L r m hm
  have e2 := hgc _ _ m2
  have e3 := hgc _ _ m3
  clear hgc
  obtain ⟨N, hN⟩ : ∃ N, N = L.length := ⟨_, rfl⟩
  have hrN : (r : Int) < (N : Int) := by omega
  have hgd : bd ≠ g := by have := P.a6; omega
  have hpn : (pl : Int) < (n : Int) := by omega
  have HMM := (show Hid _ from And.intro hm (And.intro m2 (And.intro m3 (And.intro hr hN))))
  rw [← hN] at x5
  clear hm m2 m3 hr hN hrl
  go_wp2_with fail
  go_cut [] from 50 to 51 (fun wx => ∃ seen, wx.rowIs bT 83 87 (updf tc 5 (.slice (some ⟨g, 0, none⟩) L.length cp)) ∧ wx.rowIs bd 41 (n * 2) (updf (updf bf (pl * 2) (.int .i8 (m.1 : Int))) (pl * 2 + 1) (.bool m.2)) ∧ wx.rowIs bc 48 5 (chc k 1 pl seen (.pointer (some ⟨bT, 0, none⟩))) ∧ OwnsM B (.slice (some ⟨g, 0, none⟩) L.length cp) L wx ∧ OwnsM B seen L wx ∧
        (wx.os = w1.os ∧ wx.tape = w1.tape ∧ wx.output = w1.output ∧ w1.heap.size ≤ wx.heap.size ∧ ∀ j, j < B → j ≠ bT → j ≠ bd → j ≠ bc → wx.heap[j]? = w1.heap[j]?))
  case first =>
    go_region_held3 (fun w' => w'.cell? ⟨bT, 72, none⟩ = some (.slice (some ⟨bd, 0, none⟩) n n) ∧ w'.cell? ⟨bT, 5, none⟩ = some (.slice (some ⟨g, 0, none⟩) N cp) ∧ w'.cell? ⟨g, r * 3 + 1, none⟩ = some (.int .i8 (m.1 : Int)) ∧ w'.cell? ⟨g, r * 3 + 1 + 1, none⟩ = some (.bool m.2))
      (first | exact ⟨x72, x5, e2, e3⟩ | exact ⟨z0, z1, z2, z3⟩ | exact ⟨far2 z0 P.n5, far2 z1 P.n5, far2 z2 hgd, far2 z3 hgd⟩)
      (first | (go_at_call 21; refine (decide2 (w0 := w) P hM hpl H1.out.1 H1.out.2.2 H1.out.2.1 hL0 hL1 hk x3 x72 y1 HMM.out.2.1 HMM.out.2.2.1 HMM.out.2.2.2.2 HMM.out.2.2.2.1 1).mono ?_; (rintro e w2 ⟨rfl, seen, z0, z1, z2, z3, z4, z5, z6, z7, HR⟩)))
    all_goals
      go_wp2_with fail
      go_meet
      case rel =>
        obtain ⟨R1, R2, R3, R4⟩ := HR.out
        exact turn_after P hM H1.out.1 H1.out.2.2 R1 R2 R3 R4 m
  case rest =>
    obtain ⟨seen, X1, X2, X3, X4, X5, X6⟩ := hcut
    have v78 : wc.cell? ⟨bT, 78, none⟩ = some (.int .i64 tn) := (X1.cell (by omega)).trans (congrArg some HS.out.t78)
    have v2 : wc.cell? ⟨bT, 2, none⟩ = some (.pointer none) := (X1.cell (by omega)).trans (congrArg some HS.out.t2)
    have f78 := X1.frozen 78
    have X1a := (X1.set 78 (.int .i64 T')).congr (g := updf (updf tc 5 (.slice (some ⟨g, 0, none⟩) L.length cp)) 78 (.int .i64 T')) (fun i _ => rfl)
    have bkA : ∀ j, j ≠ bT → (wc.setCell ⟨bT, 78, none⟩ (.int .i64 T')).heap[j]? = wc.heap[j]? := fun j hj => Below.heap_setCell _ _ _ _ hj
    have X2a := World.rowIs.of_block X2 (bkA bd P.n5)
    have X3a := World.rowIs.of_block X3 (bkA bc P.n6)
    have X4a : OwnsM B (.slice (some ⟨g, 0, none⟩) L.length cp) L (wc.setCell ⟨bT, 78, none⟩ (.int .i64 T')) := ownsRow_setCell_below X4 P.a1 _
    have X5a : OwnsM B seen L (wc.setCell ⟨bT, 78, none⟩ (.int .i64 T')) := ownsRow_setCell_below X5 P.a1 _
    obtain ⟨o1, o2, o3, o4, o5⟩ := X6
    have szA : (wc.setCell ⟨bT, 78, none⟩ (.int .i64 T')).heap.size = wc.heap.size := by simp
    have HA := (show Hid _ from And.intro X1a (And.intro X2a (And.intro X3a (And.intro X4a (And.intro X5a (And.intro o1 (And.intro o2 (And.intro o3 (And.intro o4 (And.intro o5 (And.intro bkA szA)))))))))))
    clear X1 X2 X3 X4 X5 X1a X2a X3a X4a X5a o1 o2 o3 o4 o5 bkA szA H1 e2 e3 x3 x5 x72 y1 blk1
    go_upto_region 5 with fail
    have HWA : Hid ((wc.setCell ⟨bT, 78, none⟩ (.int .i64 T')).os = wc.os ∧ (wc.setCell ⟨bT, 78, none⟩ (.int .i64 T')).tape = wc.tape ∧ (wc.setCell ⟨bT, 78, none⟩ (.int .i64 T')).output = wc.output) := ⟨rfl, rfl, rfl⟩
    generalize hWA : wc.setCell ⟨bT, 78, none⟩ (.int .i64 T') = WA at HA HWA ⊢
    clear v78 v2 f78 hWA
    obtain ⟨X1, X2, X3, X4, X5, o1, o2, o3, o4, o5, bkA, szA⟩ := id HA.out
    have v2 : WA.cell? ⟨bT, 2, none⟩ = some (.pointer none) := (X1.cell (by omega)).trans (congrArg some HS.out.t2)
    have v72 : WA.cell? ⟨bT, 72, none⟩ = some (.slice (some ⟨bd, 0, none⟩) n n) := (X1.cell (by omega)).trans (congrArg some HS.out.t72)
    have d0 := X2.cell (i := pl * 2) (by omega)
    have d1 := X2.cell (i := pl * 2 + 1) (by omega)
    clear X1 X2 X3 X4 X5 o1 o2 o3 o4 o5 bkA szA
    go_cut [] from 60 to 61 (fun wx => Below WA.heap.size WA wx)
    case first =>
      go_region_with (go_at_call 22; refine (bidNil_any _ _ _ _).mono ?_; (rintro e w6 ⟨rfl, b6⟩; have B6 := (show Hid _ from b6); clear b6))
      all_goals
        go_wp2_with fail
        go_meet
        case rel => exact ⟨B6.out.os, B6.out.tape, B6.out.output, B6.out.size, B6.out.block⟩
    case rest =>
      obtain ⟨X1, X2, X3, X4, X5, o1, o2, o3, o4, o5, bkA, szA⟩ := id HA.out
      have b6 := hcut
      have hBA : B ≤ WA.heap.size := by omega
      have p1 := P.a1; have p2 := P.a2; have p6 := P.a6; have p7 := P.a7
      have Y1 := World.rowIs.of_block X1 (b6.block bT (by omega))
      have Y2 := World.rowIs.of_block X2 (b6.block bd (by omega))
      have Y3 := World.rowIs.of_block X3 (b6.block bc (by omega))
      have Y4 : OwnsM B (.slice (some ⟨g, 0, none⟩) L.length cp) L wc := ownsM_below X4 b6
      have Y5 : OwnsM B seen L wc := ownsM_below X5 b6
      have v0 : wc.cell? ⟨bT, 0, none⟩ = some (.pointer (some ⟨bG, 0, none⟩)) := (Y1.cell (by omega)).trans (congrArg some HS.out.t0)
      have v84 : wc.cell? ⟨bT, 84, none⟩ = some (.int .i64 dn) := (Y1.cell (by omega)).trans (congrArg some HS.out.t84)
      have v82 : wc.cell? ⟨bT, 82, none⟩ = some (.int .i64 pl) := (Y1.cell (by omega)).trans (congrArg some HS.out.t82)
      have f84 := Y1.frozen 84
      have f82 := Y1.frozen 82
      have BK : ∀ j, j < B → j ≠ bT → j ≠ bd → j ≠ bc → wc.heap[j]? = w.heap[j]? := fun j h1 h2 h3 h4 => (b6.block j (by omega)).trans ((bkA j h2).trans ((o5 j h1 h2 h3 h4).trans (HB1.out.block j h1 h2)))
      have e2G : wc.cell? ⟨bG, 2, none⟩ = some (.int .i64 n) := (World.cell?_of_block (w := w) (BK bG p2 P.n1 P.n9 P.n8)).trans HS.out.g2
      have E1 := (Y1.set 84 (.int .i64 D')).congr (g := updf (updf (updf tc 5 (.slice (some ⟨g, 0, none⟩) L.length cp)) 78 (.int .i64 T')) 84 (.int .i64 D')) (fun i _ => rfl)
      have q0 : (wc.setCell ⟨bT, 84, none⟩ (.int .i64 D')).cell? ⟨bT, 0, none⟩ = some (.pointer (some ⟨bG, 0, none⟩)) := (E1.cell (by omega)).trans (congrArg some HS.out.t0)
      have q82 : (wc.setCell ⟨bT, 84, none⟩ (.int .i64 D')).cell? ⟨bT, 82, none⟩ = some (.int .i64 pl) := (E1.cell (by omega)).trans (congrArg some HS.out.t82)
      have q82f := E1.frozen 82
      have qG : (wc.setCell ⟨bT, 84, none⟩ (.int .i64 D')).cell? ⟨bG, 2, none⟩ = some (.int .i64 n) := (World.cell?_of_block (w := wc) (Below.heap_setCell _ _ _ _ P.n1)).trans e2G
      have E2 := (E1.set 82 (.int .i64 (nx : Int))).congr (g := updf (updf (updf (updf tc 5 (.slice (some ⟨g, 0, none⟩) L.length cp)) 78 (.int .i64 T')) 84 (.int .i64 D')) 82 (.int .i64 (nx : Int))) (fun i _ => rfl)
      obtain ⟨W6, hW6⟩ : ∃ W, W = wc.setCell ⟨bT, 84, none⟩ (.int .i64 D') := ⟨_, rfl⟩
      rw [← hW6] at q0 q82 q82f qG E2
      have bk7 : ∀ j, j ≠ bT → (W6.setCell ⟨bT, 82, none⟩ (.int .i64 (nx : Int))).heap[j]? = wc.heap[j]? := fun j hj => by rw [Below.heap_setCell _ _ _ _ hj, hW6, Below.heap_setCell _ _ _ _ hj]
      obtain ⟨W7, hW7⟩ : ∃ W, W = W6.setCell ⟨bT, 82, none⟩ (.int .i64 (nx : Int)) := ⟨_, rfl⟩
      have F2 := World.rowIs.of_block (w' := W7) Y2 (by rw [hW7]; exact bk7 bd P.n5)
      have F3 := World.rowIs.of_block (w' := W7) Y3 (by rw [hW7]; exact bk7 bc P.n6)
      have F4 : OwnsM B (.slice (some ⟨g, 0, none⟩) L.length cp) L W7 := by rw [hW7, hW6]; exact ownsRow_setCell_below (ownsRow_setCell_below Y4 P.a1 _) P.a1 _
      have F5 : OwnsM B seen L W7 := by rw [hW7, hW6]; exact ownsRow_setCell_below (ownsRow_setCell_below Y5 P.a1 _) P.a1 _
      have sz7 : W7.heap.size = wc.heap.size := by rw [hW7, hW6]; simp
      have FB : W7.os = w.os ∧ W7.tape = w.tape ∧ W7.output = w.output ∧ w.heap.size ≤ W7.heap.size ∧ ∀ j, j < B → j ≠ bT → j ≠ bd → j ≠ bc → W7.heap[j]? = w.heap[j]? := by
        have s6 := b6.size
        have s1 := HB1.out.size
        refine ⟨?_, ?_, ?_, by omega, fun j h1 h2 h3 h4 => ?_⟩
        · rw [hW7, hW6]; exact (b6.os.trans (HWA.out.1.trans (o1.trans HB1.out.os)))
        · rw [hW7, hW6]; exact (b6.tape.trans (HWA.out.2.1.trans (o2.trans HB1.out.tape)))
        · rw [hW7, hW6]; exact (b6.output.trans (HWA.out.2.2.trans (o3.trans HB1.out.output)))
        · rw [hW7]; exact (bk7 j h2).trans (BK j h1 h2 h3 h4)
      rw [← hW7] at E2
      have r84 : W7.cell? ⟨bT, 84, none⟩ = some (.int .i64 D') := E2.cell (by omega)
      have r0 : W7.cell? ⟨bT, 0, none⟩ = some (.pointer (some ⟨bG, 0, none⟩)) := (E2.cell (by omega)).trans (congrArg some HS.out.t0)
      have rG : W7.cell? ⟨bG, 2, none⟩ = some (.int .i64 n) := by rw [hW7]; exact (World.cell?_of_block (w := wc) (bk7 bG P.n1)).trans e2G
      have FIN := (show Hid _ from And.intro E2 (And.intro F2 (And.intro F3 (And.intro F4 (And.intro F5 FB)))))
      have hW6' := hW6.symm
      have hW7' := hW7.symm
      clear hW6 hW7 E1 E2 F2 F3 F4 F5 FB Y1 Y2 Y3 Y4 Y5 X1 X2 X3 X4 X5 o1 o2 o3 o4 o5 bkA szA BK bk7 HA v2 v72 d0 d1 hcut b6 v0 v82 f82 e2G
      go_wp2_with fail
      have hnext := next_any bT bG n pl W6 q0 qG hn hpl
      rw [← HNX.out] at hnext
      refine hnext.mono ?_
      clear hnext
      rintro e w8 ⟨rfl, rfl⟩
      go_wp2_with fail
      go_quiet (fail)
      go_wp2_with fail
      go_ret
      refine ⟨rfl, _, seen, m, ?_, FIN.out.1, FIN.out.2.1, FIN.out.2.2.1, ?_, ?_, FIN.out.2.2.2.2.2⟩
      · rw [← HL.out, ← HMM.out.2.2.2.1]; exact HMM.out.1
      · rw [← HL.out]; exact FIN.out.2.2.2.1
      · rw [← HL.out]; exact FIN.out.2.2.2.2.1
end Go.Proofs.YbulkbldsDoor
