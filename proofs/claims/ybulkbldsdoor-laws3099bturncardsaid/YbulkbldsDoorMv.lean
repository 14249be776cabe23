/-
  Bids as cells; bidMoves.
-/
import Derived.Test.YbulkbldsDoorChecked
import Derived.WalkKit
import Derived.WalkSpells
import Derived.WalkLawsBesides
import Derived.BigCall
import Derived.Deep.OwnRows
import Derived.Deep.QuietTactic
import Derived.BigQuiet
import Derived.Laws.AppendOwn
import Derived.Below
import Derived.Lib.Walk
import Derived.Lib.AppendIntMem
import Derived.Deep.CutBlock
import Derived.Deep.DeepCutAuto
namespace Go.Proofs.YbulkbldsDoor
open Go.RowKit

/-- A bid: tricks, Nil. -/
abbrev Mv := Nat × Bool
def mvc (m : Mv) : List Value := [.int .u8 0, .int .i8 (m.1 : Int), .bool m.2]
def mvCells (l : List Mv) : List Value := l.flatMap mvc
theorem mvCells_len (l : List Mv) : (mvCells l).length = l.length * 3 := by
  induction l with
  | nil => rfl
  | cons m l ih => simp [mvCells, mvc] at ih ⊢; omega
theorem mvCells_app (a b : List Mv) : mvCells (a ++ b) = mvCells a ++ mvCells b := by simp [mvCells]

def OwnsM (B : Nat) (v : Value) (l : List Mv) (w : World) : Prop := w.ownsRow B 44 3 v l.length (mvCells l)
theorem OwnsM.nil (B : Nat) (w : World) : OwnsM B (.slice none 0 0) [] w := World.ownsRow_nil _ _ _ _
theorem OwnsM.shape {B : Nat} {v : Value} {l : List Mv} {w : World} (h : OwnsM B v l w) : ∃ a c, v = .slice a l.length c := by
  obtain ⟨_, ⟨h0, h1⟩ | ⟨g, cap, cur, hv, _⟩⟩ := h
  · exact ⟨none, 0, by rw [h0, h1]⟩
  · exact ⟨_, cap, hv⟩

theorem OwnsM.shape' {B : Nat} {v : Value} {l : List Mv} {w : World} (h : OwnsM B v l w) : ∃ a n c, v = .slice a n c := by
  obtain ⟨a, c, e⟩ := h.shape
  exact ⟨a, _, c, e⟩

theorem i44 : (Ybad.prog.info? 44).map (fun i => (i.zero, i.size, i.bytes)) = some (some (.agg #[.int .u8 0, .int .i8 0, .bool false]), 3, 3) := by kernel_rfl

/-- 'append(v, m)' of one bid, v owned. -/
theorem wp_mv {ops : Array Oper} {rest : List Oper} {o : Oper} {a : Act} {Q : Exit → Act → World → Prop} (w : World) (hgd : o.guard = none) (s x : Operand)
    (ho : o.op = Op.call { callee := Callee.builtin Builtin.append, args := #[s, x], argTypes := #[38, 38] }) {B : Nat} {v : Value} {l : List Mv} (hown : OwnsM B v l w) (hs : a.eval s = v) (hB : B ≤ w.heap.size)
    (hl : l.length ≤ 1000) (m : Mv) (cs : Array Value) (hc : cs = (mvc m).toArray) (hx : a.eval x = .slice (some ⟨w.heap.size, 0, none⟩) 1 1)
    (h : ∀ v' w', OwnsM B v' (l ++ [m]) w' → Below B w w' → wpList Ybad.prog ops Q rest (a.put o.dst v') w') : wpList Ybad.prog ops Q (o :: rest) a (w.alloc (.cells cs 44)) := by
  subst hc
  obtain ⟨i, hi, hzz⟩ := Option.map_eq_some_iff.1 i44
  simp only [Prod.mk.injEq] at hzz
  obtain ⟨hz0, hz1, hz2⟩ := hzz
  refine wpList_append_own _ hgd s x 38 ho B 44 i (.agg #[.int .u8 0, .int .i8 0, .bool false]) 3 3 Ybad.underlying38 hi hz0 hz1 hz2 rfl (by decide) v _ _ hs (World.ownsRow.alloc hown _) ⟨w.heap.size, 0, none⟩ 1 1 (mvc m) hx rfl ?_ ?_ (by unfold maxLen; omega) (by omega) (by simp; omega) ?_
  · intro j u' hj
    rw [Lib.add_plain, World.cell?_alloc_new]
    simpa using hj
  · intro u' hu'
    simp [mvc] at hu'
    rcases hu' with rfl | rfl | rfl <;> rfl
  · intro v1 w1 hown1 hgrow _
    refine h v1 w1 ?_ (((Below.refl B w).alloc hB _).grown hgrow (by simp; omega) (fun k hk => (World.ownsRow.lt hown k hk).1))
    unfold OwnsM
    rw [mvCells_app, List.length_append]
    simpa [mvCells] using hown1

/-- The plain bids from 'first' on, k of them. -/
def bids (first k : Nat) : List Mv := (List.range k).map (fun i => (first + i, false))
theorem bids_succ (first k : Nat) : bids first (k + 1) = bids first k ++ [(first + k, false)] := by
  unfold bids
  rw [List.range_succ, List.map_append]
  rfl
theorem bids_len (first k : Nat) : (bids first k).length = k := by simp [bids]

/-- A row with one cell laid anew. -/
def updf (f : Nat → Value) (i : Nat) (v : Value) : Nat → Value := fun j => if j = i then v else f j
theorem updf_updf (f : Nat → Value) (i : Nat) (u v : Value) : updf (updf f i u) i v = updf f i v := by
  funext j
  unfold updf
  split <;> rfl

/-- Nothing below B has turned but block b. -/
structure But1 (B b : Nat) (w w' : World) : Prop where
  os : w'.os = w.os
  tape : w'.tape = w.tape
  output : w'.output = w.output
  size : w.heap.size ≤ w'.heap.size
  block : ∀ k, k < B → k ≠ b → w'.heap[k]? = w.heap[k]?
theorem But1.of {B b : Nat} {w w' : World} (h : Below B w w') : But1 B b w w' := ⟨h.os, h.tape, h.output, h.size, fun k hk _ => h.block k hk⟩
theorem But1.trans {B b : Nat} {a c d : World} (h : But1 B b a c) (k : But1 B b c d) : But1 B b a d :=
  ⟨k.os.trans h.os, k.tape.trans h.tape, k.output.trans h.output, Nat.le_trans h.size k.size, fun j hj hn => (k.block j hj hn).trans (h.block j hj hn)⟩
theorem But1.set {B b : Nat} {a c : World} (h : But1 B b a c) (i : Nat) (v : Value) : But1 B b a (c.setCell ⟨b, i, none⟩ v) :=
  h.trans ⟨rfl, rfl, rfl, by simp [World.setCell], fun k _ hn => Below.heap_setCell _ _ _ _ hn⟩

/-- The table at block bT, its moves owned. -/
structure MS (B bT : Nat) (tc : Nat → Value) (w0 : World) (mv : Value) (l : List Mv) (w : World) : Prop where
  lt : bT < B
  hB : B ≤ w.heap.size
  tr : w.rowIs bT 83 87 (updf tc 5 mv)
  own : OwnsM B mv l w
  but : But1 B bT w0 w

theorem MS.store {B bT : Nat} {tc : Nat → Value} {w0 w w' : World} {mv v : Value} {l l' : List Mv} (h : MS B bT tc w0 mv l w) (hb : Below B w w') (ho : OwnsM B v l' w') : MS B bT tc w0 v l' (w'.setCell ⟨bT, 5, none⟩ v) := by
  refine ⟨h.lt, by have := h.hB; have := hb.size; simp; omega, ?_, ownsRow_setCell_below ho h.lt v, (h.but.trans (But1.of hb)).set 5 v⟩
  have hr := World.rowIs.of_block h.tr (hb.block bT h.lt)
  refine (hr.set 5 v).congr ?_
  intro i _
  unfold updf
  by_cases e : i = 5 <;> simp [e]
theorem MS.c {B bT : Nat} {tc : Nat → Value} {w0 w : World} {mv : Value} {l : List Mv} (h : MS B bT tc w0 mv l w) (i : Nat) (hi : i < 87) (hn : i ≠ 5) : w.cell? ⟨bT, i, none⟩ = some (tc i) := by
  rw [h.tr.cell hi]; unfold updf; rw [if_neg hn]
theorem MS.c5 {B bT : Nat} {tc : Nat → Value} {w0 w : World} {mv : Value} {l : List Mv} (h : MS B bT tc w0 mv l w) : w.cell? ⟨bT, 5, none⟩ = some mv := by
  rw [h.tr.cell (by omega)]; rfl
theorem MS.at {B bT : Nat} {tc : Nat → Value} {w0 w w' : World} {mv : Value} {l : List Mv} (h : MS B bT tc w0 mv l w) (hb : Below B w w') : w'.cell? ⟨bT, 5, none⟩ = some mv ∧ w'.frozen? ⟨bT, 5, none⟩ = false :=
  ⟨(hb.cell (p := ⟨bT, 5, none⟩) h.lt).trans h.c5, (hb.frozen (p := ⟨bT, 5, none⟩) h.lt).trans (h.tr.frozen 5)⟩

set_option maxRecDepth 100000 in
theorem pileLen_any (b o : Nat) (v : Value) (w : World) (h : w.cell? ⟨b, o + 53, none⟩ = some v) : Calls Ybad.prog 31 #[.pointer (some ⟨b, o, none⟩)] w fun e w' => e = .returned v ∧ w' = w := by
  go_enter Ybad.func31, Ybad.ntmps31
  go_wp2
  go_ret
  exact ⟨rfl, rfl⟩

theorem wrap8 (n : Nat) (h : n ≤ 60) : IntKind.i8.wrap (n : Int) = (n : Int) := by
  have h2 : ∀ x : Fin 61, IntKind.i8.wrap (x.1 : Int) = (x.1 : Int) := by decide +kernel
  exact h2 ⟨n, by omega⟩

/-- A sequence without its first n statements. -/
def tlM : Nat → Code → Code
  | 0, c => c
  | n + 1, .seq _ b => tlM n b
  | _ + 1, c => c

def sndM : Code → Code
  | .seq _ b => b
  | c => c

set_option maxRecDepth 100000 in
set_option maxHeartbeats 1000000 in
/-- bidMoves' loop. -/
theorem bm_loop (B bT F M : Nat) (tc : Nat → Value) (w0 w : World) (mv : Value) (pre : List Mv) (hS : MS B bT tc w0 mv pre w) (hp : pre.length ≤ 1) (hF : F ≤ 13) (hM : M ≤ 26) (L : List Mv) (hL : L = pre ++ bids F (M + 1 - F)) {y1 y2 y3 y4 y5 y9 y10 y11 y12 y13 y14 y15 y16 y17 y18 y19 y20 y21 y22 y23 y24 y25 y26 y27 y28 y29 y30 y31 y32 y33 y34 y35 y36 y37 y38 y39 y40 y41 y42 y43 y44 y45 y46 y47 y48 y49 y50 y51 y52 y53 y54 y55 y56 y57 y58 y59 y60 y61 y62 y63 y64 y65 y66 y67 y68 : Value} :
    Code.wp Ybad.prog (sndM (tlM 3 (Ybad.f20.body.getD .skip))) (bodyPost Ybad.prog Ybad.f20 fun e w' => e = .returned (.tuple #[]) ∧ ∃ mv, MS B bT tc w0 mv L w') ⟨#[.pointer (some ⟨bT, 0, none⟩), y1, y2, y3, y4, y5, .int .i64 (F : Int), .int .i64 (M : Int), .int .i64 (F : Int), y9, y10, y11, y12, y13, y14, y15, y16, y17, y18, y19, y20, y21, y22, y23, y24, y25, y26, y27, y28, y29, y30, y31, y32, y33, y34, y35, y36, y37, y38, y39, y40, y41, y42, y43, y44, y45, y46, y47, y48, y49, y50, y51, y52, y53, y54, y55, y56, y57, y58, y59, y60, y61, y62, y63, y64, y65, y66, y67, y68], []⟩ w := by
  conv => arg 2; whnf
  have HS := (show Hid _ from hS)
  have HLL := (show Hid _ from hL)
  clear hS hL
  go_wp2_with fail
  go_loopw [8] (fun i wr => ∃ k : Nat, k ≤ M + 1 - F ∧ i = .int .i64 ((F + k : Nat) : Int) ∧ ∃ mv, MS B bT tc w0 mv (pre ++ bids F k) wr) (fun i _ => M + 1 - (intOf i).toNat)
  case atStart => exact ⟨0, Nat.zero_le _, rfl, mv, by simpa [bids] using HS.out⟩
  case round =>
    obtain ⟨k, hk, rfl, mv', S⟩ := hrel
    clear HS
    by_cases hlt : F + k ≤ M
    · have c5 := S.c5
      obtain ⟨N, hN⟩ : ∃ N, N = F + k := ⟨_, rfl⟩
      rw [← hN]
      have hNM : (N : Int) ≤ (M : Int) := by omega
      have hwr : IntKind.i8.wrap (N : Int) = (N : Int) := wrap8 N (by omega)
      have hw1 : IntKind.i64.wrap ((N : Int) + 1) = (N : Int) + 1 := by rw [IntKind.wrap_i64]; omega
      have HS := (show Hid _ from S)
      have HN : Hid (N = F + k) := hN
      clear S hN
      go_wp2_with (at_builtin; refine wp_mv _ rfl _ _ rfl HS.out.own rfl HS.out.hB (by simp [bids_len]; omega) (N, false) _ rfl rfl ?_)
      intro v1 w1 o1 b1
      obtain ⟨k1, k2⟩ := HS.out.at b1
      have S1 := HS.out.store b1 o1
      obtain ⟨a1, n1, d1, rfl⟩ := o1.shape'
      have H1 := (show Hid _ from S1)
      clear o1 b1 S1
      go_wp2_with fail
      refine ⟨⟨k + 1, by have := HN.out; omega, by have := HN.out; go_num, .slice a1 n1 d1, ?_⟩, ?_⟩
      · rw [bids_succ, ← HN.out]
        exact H1.out
      · show M + 1 - ((N : Int) + 1).toNat < M + 1 - ((N : Int)).toNat
        omega
    · have hkk : k = M + 1 - F := by omega
      have hnl : ¬ ((F + k : Nat) : Int) ≤ (M : Int) := by omega
      obtain ⟨N, hN⟩ : ∃ N, N = F + k := ⟨_, rfl⟩
      rw [← hN] at hnl ⊢
      rw [hkk] at S
      have HS := (show Hid _ from S)
      clear S hN hkk
      go_wp2_with fail
      go_end0
      exact ⟨rfl, mv', by rw [HLL.out]; exact HS.out⟩

set_option maxRecDepth 100000 in
set_option maxHeartbeats 1000000 in
theorem bidMoves_any (B bT bP bl n pl lo hi h : Nat) (an : Bool) (tc : Nat → Value) (w : World) (T : w.rowIs bT 83 87 tc) (t5 : tc 5 = .slice none 0 0) (t12 : tc 12 = .slice (some ⟨bl, 0, none⟩) n n) (hlt : bT < B) (hB : B ≤ w.heap.size)
    (p6 : w.cell? ⟨bP, 6, none⟩ = some (.int .i64 lo)) (p7 : w.cell? ⟨bP, 7, none⟩ = some (.int .i64 hi)) (p8 : w.cell? ⟨bP, 8, none⟩ = some (.bool an)) (hpl : pl < n) (hh : w.cell? ⟨bl, pl * 54 + 53, none⟩ = some (.int .i64 h))
    (hlo : lo ≤ 13) (hhi : hi ≤ 26) (hh' : h ≤ 52) (hnp : bP ≠ bT) :
    Calls Ybad.prog 20 #[.pointer (some ⟨bT, 0, none⟩), .pointer (some ⟨bP, 0, none⟩), .int .i64 pl] w fun e w' => e = .returned (.tuple #[]) ∧
      ∃ mv, MS B bT tc w mv ((if an then [(0, true)] else []) ++ bids (if an then max lo 1 else lo) (min hi h + 1 - (if an then max lo 1 else lo))) w' := by
  have c12 := T.cell (i := 12) (by omega)
  have c5 := T.cell (i := 5) (by omega)
  rw [t12] at c12
  rw [t5] at c5
  have f5 := T.frozen 5
  have hpn : (pl : Int) < (n : Int) := by omega
  obtain ⟨M, hM⟩ : ∃ M, M = min hi h := ⟨_, rfl⟩
  have hmn : min (hi : Int) (h : Int) = (M : Int) := by omega
  have HM : Hid (M = min hi h) := hM
  have hM26 : M ≤ 26 := by omega
  clear hM
  have HT : Hid (w.rowIs bT 83 87 tc) := T
  clear T
  go_enter Ybad.func20, Ybad.ntmps20
  go_wp2_with fail
  go_quiet ((go_at_call 31; refine Calls.quiet_of_same (pileLen_any bl (pl * 54) _ _ hh)))
  have S0 : MS B bT tc w (.slice none 0 0) [] ((w.drewN nq).setCell ⟨bT, 5, none⟩ (.slice none 0 0)) := by
    refine ⟨hlt, by simp; exact hB, ?_, OwnsM.nil _ _, ⟨rfl, rfl, rfl, by simp [World.setCell], fun k _ hn => Below.heap_setCell _ _ _ _ hn⟩⟩
    refine (World.rowIs.set (w := w.drewN nq) HT.out 5 (.slice none 0 0)).congr ?_
    intro i _
    rfl
  have d5 := S0.c5
  have d8 : ((w.drewN nq).setCell ⟨bT, 5, none⟩ (.slice none 0 0)).cell? ⟨bP, 8, none⟩ = some (.bool an) := by
    exact (World.cell?_of_block (w := w) (Below.heap_setCell _ _ _ _ hnp)).trans p8
  have HS0 := (show Hid _ from S0)
  clear S0
  cases an
  · go_upto_region 5 with fail
    go_cut [8] from 50 to 51 (fun s8 wx => s8 = .int .i64 (lo : Int) ∧ wx = (w.drewN nq).setCell ⟨bT, 5, none⟩ (.slice none 0 0))
    case first =>
      go_wp2_with fail
      go_meet
      case rel => exact ⟨rfl, rfl⟩
    case rest =>
      obtain ⟨rfl, rfl⟩ := hcut
      refine ‹∀ (a : Act) (w : World), Code.wp Ybad.prog _ _ a w → _› _ _ ?_
      exact bm_loop B bT lo M tc w _ _ [] HS0.out (by simp) hlo hM26 _ (by rw [HM.out]; rfl)
  · have hmx : max (lo : Int) 1 = ((max lo 1 : Nat) : Int) := by omega
    obtain ⟨F, hF⟩ : ∃ F, F = max lo 1 := ⟨_, rfl⟩
    rw [← hF] at hmx
    have hF13 : F ≤ 13 := by omega
    have HF : Hid (F = max lo 1) := hF
    clear hF
    go_upto_region 3 with fail
    generalize (w.drewN nq).setCell ⟨bT, 5, none⟩ (.slice none 0 0) = W0 at HS0 d5 ⊢
    clear d8 p6 p7 p8 c5 f5 c12
    go_wp2_with (at_builtin; refine wp_mv W0 rfl _ _ rfl HS0.out.own rfl HS0.out.hB (by simp) (0, true) _ rfl rfl ?_)
    intro v1 w1 o1 b1
    obtain ⟨k1, k2⟩ := HS0.out.at b1
    have S1 := HS0.out.store b1 o1
    obtain ⟨a1, n1, d1, rfl⟩ := o1.shape'
    have H1 := (show Hid _ from S1)
    clear o1 b1 S1 d5 hh
    go_upto_region 5 with fail
    go_cut [8] from 50 to 51 (fun s8 wx => s8 = .int .i64 (F : Int) ∧ wx = w1.setCell ⟨bT, 5, none⟩ (.slice a1 n1 d1))
    case first =>
      go_wp2_with fail
      go_meet
      case rel => exact ⟨rfl, rfl⟩
    case rest =>
      obtain ⟨rfl, rfl⟩ := hcut
      refine ‹∀ (a : Act) (w : World), Code.wp Ybad.prog _ _ a w → _› _ _ ?_
      exact bm_loop B bT F M tc w _ _ [(0, true)] H1.out (by simp) hF13 hM26 _ (by rw [HM.out, HF.out]; rfl)
end Go.Proofs.YbulkbldsDoor
