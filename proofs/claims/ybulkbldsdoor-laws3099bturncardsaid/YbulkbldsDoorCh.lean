/-
  Clone, Equal, choose, decide, next.
-/
import Derived.Test.YbulkbldsDoorMv
import Derived.Laws.StructEq
import Derived.Deep.RegionLaw
import Derived.Deep.RegionHeld3
namespace Go.Proofs.YbulkbldsDoor
open Go.RowKit

theorem OwnsM.at {B : Nat} {v : Value} {l : List Mv} {w : World} (h : OwnsM B v l w) (hl : 0 < l.length) : ∃ g cp, v = .slice (some ⟨g, 0, none⟩) l.length cp ∧ B ≤ g ∧ g < w.heap.size ∧ ∀ j u, (mvCells l)[j]? = some u → w.cell? ⟨g, j, none⟩ = some u := by
  obtain ⟨_, ⟨h0, h1⟩ | ⟨g, cap, cur, hv, hb, hh, _⟩⟩ := id h
  · omega
  · refine ⟨g, cap, hv, hb, ?_, fun j u hj => ?_⟩
    · rcases Nat.lt_or_ge g w.heap.size with h2 | h2
      · exact h2
      · rw [Array.getElem?_eq_none h2] at hh; cases hh
    · have := World.ownsRow.cells h (g := g) (by rw [hv]; rfl) j u hj
      rw [Lib.add_plain, Nat.zero_add] at this
      exact this

theorem mv_at (l : List Mv) (i : Nat) (m : Mv) (h : l[i]? = some m) : (mvCells l)[i * 3]? = some (.int .u8 0) ∧ (mvCells l)[i * 3 + 1]? = some (.int .i8 (m.1 : Int)) ∧ (mvCells l)[i * 3 + 2]? = some (.bool m.2) := by
  induction l generalizing i with
  | nil => simp at h
  | cons x l ih =>
    have e : mvCells (x :: l) = mvc x ++ mvCells l := by simp [mvCells]
    cases i with
    | zero =>
      simp at h
      subst h
      rw [e]
      simp [mvc]
    | succ i =>
      simp at h
      obtain ⟨h1, h2, h3⟩ := ih i h
      rw [e]
      have hl : (mvc x).length = 3 := rfl
      refine ⟨?_, ?_, ?_⟩
      · rw [List.getElem?_append_right (by omega), hl, show (i + 1) * 3 - 3 = i * 3 by omega]; exact h1
      · rw [List.getElem?_append_right (by omega), hl, show (i + 1) * 3 + 1 - 3 = i * 3 + 1 by omega]; exact h2
      · rw [List.getElem?_append_right (by omega), hl, show (i + 1) * 3 + 2 - 3 = i * 3 + 2 by omega]; exact h3

theorem mv_one (l : List Mv) : ∀ u ∈ mvCells l, u.oneCell' = true := by
  intro u hu
  simp only [mvCells, List.mem_flatMap] at hu
  obtain ⟨m, _, hm⟩ := hu
  simp [mvc] at hm
  rcases hm with rfl | rfl | rfl <;> rfl

theorem notNil38 (a : Addr) (n c : Nat) (w : World) : (binOp .eql 38 (.slice (some a) n c) (.slice none 0 0)).run Ybad.prog w = .ok (.bool false) w := by
  kernel_rfl

set_option maxRecDepth 100000 in
theorem cloneM_any (B : Nat) (v : Value) (l : List Mv) (w : World) (hown : OwnsM B v l w) (hl : 0 < l.length) (hl' : l.length ≤ 1000) :
    Calls Ybad.prog 69 #[v] w fun e w' => ∃ a n c, e = .returned (.slice a n c) ∧ OwnsM w.heap.size (.slice a n c) l w' ∧ Below w.heap.size w w' := by
  obtain ⟨g, cp, rfl, hg1, hg2, hcs⟩ := hown.at hl
  obtain ⟨i, hi, hzz⟩ := Option.map_eq_some_iff.1 i44
  simp only [Prod.mk.injEq] at hzz
  obtain ⟨hz0, hz1, hz2⟩ := hzz
  have HC := (show Hid _ from hcs)
  clear hcs hown
  have hnn := notNil38 ⟨g, 0, none⟩ l.length cp
  go_enter Ybad.func69, Ybad.ntmps69
  go_upto_region 3 with fail
  have hown0 : (w.alloc (.cells #[] 44)).ownsRow w.heap.size 44 3 (.slice (some ⟨w.heap.size, 0, none⟩) 0 0) 0 [] := World.ownsRow_made w #[] 0 (Nat.le_refl _) (by unfold maxLen; omega) rfl
  have hsrc : ∀ j u, (mvCells l)[j]? = some u → (w.alloc (.cells #[] 44)).cell? ((⟨g, 0, none⟩ : Addr).add j) = some u := fun j u hj => by
    rw [Lib.add_plain, Nat.zero_add, World.cell?_of_block (w := w) (Below.heap_alloc _ _ _ hg2)]
    exact HC.out j u hj
  go_wp2_with (at_builtin; refine wpList_append_own _ rfl _ _ 38 rfl w.heap.size 44 i (.agg #[.int .u8 0, .int .i8 0, .bool false]) 3 3 Ybad.underlying38 hi hz0 hz1 hz2 rfl (by decide) _ _ _ rfl hown0 ⟨g, 0, none⟩ l.length cp (mvCells l) rfl (mvCells_len l) hsrc (mv_one l) (by unfold maxLen; omega) (by omega) (by simp) ?_)
  intro v1 w1 o1 hgrow _
  have O1 : OwnsM w.heap.size v1 l w1 := by
    unfold OwnsM
    simpa using o1
  have B1 : Hid (Below w.heap.size w w1) := ((Below.refl w.heap.size w).alloc (Nat.le_refl _) _).grown hgrow (by simp) (fun k hk => (World.ownsRow.lt hown0 k hk).1)
  obtain ⟨a1, n1, d1, rfl⟩ := O1.shape'
  have H1 := (show Hid _ from O1)
  clear o1 hgrow O1 hown0 hsrc
  go_wp2_with fail
  go_ret
  exact ⟨a1, n1, d1, rfl, H1.out, B1.out⟩

set_option maxRecDepth 100000 in
theorem equalM_any (a b ca cb : Nat) (l : List Mv) (w : World) (hl' : l.length ≤ 1000) (ha : ∀ j u, (mvCells l)[j]? = some u → w.cell? ⟨a, j, none⟩ = some u) (hb : ∀ j u, (mvCells l)[j]? = some u → w.cell? ⟨b, j, none⟩ = some u) :
    Calls Ybad.prog 13 #[.slice (some ⟨a, 0, none⟩) l.length ca, .slice (some ⟨b, 0, none⟩) l.length cb] w fun e w' => e = .returned (.bool true) ∧ ∃ q, w' = w.drewN q := by
  have HA := (show Hid _ from ha)
  have HB := (show Hid _ from hb)
  clear ha hb
  obtain ⟨N, hN⟩ : ∃ N, N = l.length := ⟨_, rfl⟩
  rw [← hN]
  have HN : Hid (N = l.length) := hN
  have hNb : N ≤ 1000 := by omega
  clear hN hl'
  go_enter Ybad.func13, Ybad.ntmps13
  go_wp2_with fail
  go_loopw [13] (fun i wr => ∃ j : Nat, j ≤ N ∧ i = .int .i64 j ∧ ∃ q, wr = w.drewN q) (fun i _ => N - (intOf i).toNat)
  case atStart => exact ⟨0, Nat.zero_le _, rfl, 0, rfl⟩
  case round =>
    obtain ⟨j, hj, rfl, q, rfl⟩ := hrel
    by_cases hlt : j < N
    · obtain ⟨m, hm⟩ : ∃ m, l[j]? = some m := ⟨_, List.getElem?_eq_getElem (by have := HN.out; omega)⟩
      obtain ⟨m1, m2, m3⟩ := mv_at l j m hm
      have a1 := HA.out _ _ m1
      have a2 := HA.out _ _ m2
      have a3 := HA.out _ _ m3
      have b1 := HB.out _ _ m1
      have b2 := HB.out _ _ m2
      have b3 := HB.out _ _ m3
      have jl : (j : Int) < (N : Int) := by omega
      obtain ⟨mt, mb⟩ := m
      clear m1 m2 m3 hm
      go_wp2_with fail
      go_quiet (fail)
      go_wp2_with fail
      refine ⟨⟨j + 1, by omega, by go_num, _, rfl⟩, ?_⟩
      show N - ((j : Int) + 1).toNat < N - ((j : Int)).toNat
      omega
    · obtain rfl : j = N := by omega
      go_wp2_with fail
      go_ret
      exact ⟨rfl, _, rfl⟩

set_option maxRecDepth 100000 in
theorem bidNil_any (pl : Int) (x : Value) (y : Value) (w : World) : Calls Ybad.prog 22 #[.pointer none, .int .i64 pl, .agg #[x, y]] w fun e w' => e = .returned (.tuple #[]) ∧ Below w.heap.size w w' := by
  go_enter Ybad.func22, Ybad.ntmps22
  go_wp2_with fail
  refine bodyPost_ret (results_none rfl _ _ _) rfl ?_
  exact ⟨rfl, (Below.refl _ _).alloc (Nat.le_refl _) _⟩

set_option maxRecDepth 100000 in
theorem next_any (bT bG n pl : Nat) (w : World) (h0 : w.cell? ⟨bT, 0, none⟩ = some (.pointer (some ⟨bG, 0, none⟩))) (h2 : w.cell? ⟨bG, 2, none⟩ = some (.int .i64 n)) (hn : n ≤ 8) (hpl : pl < n) :
    Calls Ybad.prog 23 #[.pointer (some ⟨bT, 0, none⟩), .int .i64 pl] w fun e w' => e = .returned (.int .i64 (((pl + 1) % n : Nat) : Int)) ∧ w' = w := by
  have hw : IntKind.i64.wrap ((pl : Int) + 1) = (pl : Int) + 1 := by rw [IntKind.wrap_i64]; omega
  by_cases e : pl + 1 = n
  · have he : ((pl : Int) + 1 == (n : Int)) = true := by rw [beq_iff_eq]; omega
    have hr : (pl + 1) % n = 0 := by rw [e]; exact Nat.mod_self n
    rw [hr]
    clear e hr
    go_enter Ybad.func23, Ybad.ntmps23
    go_wp2_with fail
    go_ret
    exact ⟨rfl, rfl⟩
  · have he : ((pl : Int) + 1 == (n : Int)) = false := by rw [beq_eq_false_iff_ne]; omega
    have hr : (pl + 1) % n = pl + 1 := Nat.mod_eq_of_lt (by omega)
    rw [hr]
    clear e hr
    go_enter Ybad.func23, Ybad.ntmps23
    go_wp2_with fail
    go_ret
    exact ⟨rfl, rfl⟩

/-- The stand-in chooser's five cells. -/
def chc (k : Nat) (calls seat : Int) (seen tab : Value) (i : Nat) : Value :=
  if i = 0 then .int .i64 k else if i = 1 then .int .i64 calls else if i = 2 then .int .i64 seat else if i = 3 then seen else tab

set_option maxRecDepth 100000 in
theorem choose_any (B bc bT k pl : Nat) (v : Value) (l : List Mv) (w : World) (hr : w.rowIs bc 48 5 (chc k 0 0 (.slice none 0 0) (.pointer none))) (hown : OwnsM B v l w) (hl : 0 < l.length) (hl' : l.length ≤ 1000) (hk : k ≤ 255) (hbc : bc < B) (hB : B ≤ w.heap.size) :
    Calls Ybad.prog 68 #[.pointer (some ⟨bc, 0, none⟩), .pointer (some ⟨bT, 0, none⟩), .int .i64 pl, v] w fun e w' => e = .returned (.int .i64 ((k % l.length : Nat) : Int)) ∧
      ∃ seen, w'.rowIs bc 48 5 (chc k 1 pl seen (.pointer (some ⟨bT, 0, none⟩))) ∧ OwnsM B seen l w' ∧ OwnsM B v l w' ∧ But1 w.heap.size bc w w' := by
  have c0 : w.cell? ⟨bc, 0, none⟩ = some (.int .i64 k) := hr.cell (by omega)
  have c1 : w.cell? ⟨bc, 1, none⟩ = some (.int .i64 0) := hr.cell (by omega)
  have c2 : w.cell? ⟨bc, 2, none⟩ = some (.int .i64 0) := hr.cell (by omega)
  have f1 := hr.frozen 1
  have f2 := hr.frozen 2
  obtain ⟨a0, n0, d0, hv⟩ := hown.shape'
  obtain ⟨a', c', hv'⟩ := hown.shape
  obtain rfl : n0 = l.length := by rw [hv] at hv'; injection hv'
  subst hv
  have R2 : ((w.setCell ⟨bc, 1, none⟩ (.int .i64 1)).setCell ⟨bc, 2, none⟩ (.int .i64 pl)).rowIs bc 48 5 (chc k 1 pl (.slice none 0 0) (.pointer none)) := by
    refine ((hr.set 1 _).set 2 _).congr ?_
    intro i _
    unfold chc
    by_cases e2 : i = 2
    · subst e2; simp
    · by_cases e1 : i = 1
      · subst e1; simp
      · simp [e1, e2]
  have O2 : OwnsM B (.slice a0 l.length d0) l ((w.setCell ⟨bc, 1, none⟩ (.int .i64 1)).setCell ⟨bc, 2, none⟩ (.int .i64 pl)) := ownsRow_setCell_below (ownsRow_setCell_below hown hbc _) hbc _
  have B2 : But1 w.heap.size bc w ((w.setCell ⟨bc, 1, none⟩ (.int .i64 1)).setCell ⟨bc, 2, none⟩ (.int .i64 pl)) := ((But1.of (Below.refl _ _)).set 1 _).set 2 _
  have s2 : ((w.setCell ⟨bc, 1, none⟩ (.int .i64 1)).setCell ⟨bc, 2, none⟩ (.int .i64 pl)).heap.size = w.heap.size := by simp
  have HX := (show Hid _ from And.intro R2 (And.intro O2 (And.intro B2 s2)))
  have HB := (show Hid _ from hB)
  clear R2 O2 B2 s2 hr hown hv'
  go_enter Ybad.func68, Ybad.ntmps68
  go_upto_region 3 with fail
  generalize (w.setCell ⟨bc, 1, none⟩ (.int .i64 1)).setCell ⟨bc, 2, none⟩ (.int .i64 pl) = W at HX ⊢
  go_wp2_with fail
  refine (cloneM_any B _ l W HX.out.2.1 hl hl').mono ?_
  rintro e w1 ⟨a1, n1, d1, rfl, o1, b1⟩
  obtain ⟨R2, O2, B2, s2⟩ := HX.out
  have hbW : bc < W.heap.size := by have := HB.out; omega
  have R3 := World.rowIs.of_block R2 (b1.block bc hbW)
  have g0 : w1.cell? ⟨bc, 0, none⟩ = some (.int .i64 k) := R3.cell (by omega)
  have g3 : w1.cell? ⟨bc, 3, none⟩ = some (.slice none 0 0) := R3.cell (by omega)
  have g4 : w1.cell? ⟨bc, 4, none⟩ = some (.pointer none) := R3.cell (by omega)
  have h3 := R3.frozen 3
  have h4 := R3.frozen 4
  have R5 : ((w1.setCell ⟨bc, 3, none⟩ (.slice a1 n1 d1)).setCell ⟨bc, 4, none⟩ (.pointer (some ⟨bT, 0, none⟩))).rowIs bc 48 5 (chc k 1 pl (.slice a1 n1 d1) (.pointer (some ⟨bT, 0, none⟩))) := by
    refine ((R3.set 3 _).set 4 _).congr ?_
    intro i _
    unfold chc
    by_cases e4 : i = 4
    · subst e4; simp
    · by_cases e3 : i = 3
      · subst e3; simp
      · simp only [if_neg e3, if_neg e4]
        by_cases e0 : i = 0
        · simp [e0]
        · by_cases e1 : i = 1
          · simp [e1]
          · by_cases e2 : i = 2
            · simp [e2]
            · omega
  have o1' : OwnsM B (.slice a1 n1 d1) l w1 := by
    obtain ⟨x1, x2 | ⟨g, cap, cur, e1, e2, e3, e4⟩⟩ := o1
    · exact ⟨x1, .inl x2⟩
    · exact ⟨x1, .inr ⟨g, cap, cur, e1, by have := HB.out; omega, e3, e4⟩⟩
  have O1 : OwnsM B (.slice a0 l.length d0) l w1 := by
    obtain ⟨x1, x2 | ⟨g, cap, cur, e1, e2, e3, e4⟩⟩ := O2
    · exact ⟨x1, .inl x2⟩
    · have hg : g < W.heap.size := by
        rcases Nat.lt_or_ge g W.heap.size with h2 | h2
        · exact h2
        · rw [Array.getElem?_eq_none h2] at e3; cases e3
      exact ⟨x1, .inr ⟨g, cap, cur, e1, e2, (b1.block g hg).trans e3, e4⟩⟩
  have B5 : But1 w.heap.size bc w ((w1.setCell ⟨bc, 3, none⟩ (.slice a1 n1 d1)).setCell ⟨bc, 4, none⟩ (.pointer (some ⟨bT, 0, none⟩))) := ((B2.trans (But1.of (by rw [← s2]; exact b1))).set 3 _).set 4 _
  have P1 : OwnsM B (.slice a1 n1 d1) l ((w1.setCell ⟨bc, 3, none⟩ (.slice a1 n1 d1)).setCell ⟨bc, 4, none⟩ (.pointer (some ⟨bT, 0, none⟩))) := ownsRow_setCell_below (ownsRow_setCell_below o1' hbc _) hbc _
  have P2 : OwnsM B (.slice a0 l.length d0) l ((w1.setCell ⟨bc, 3, none⟩ (.slice a1 n1 d1)).setCell ⟨bc, 4, none⟩ (.pointer (some ⟨bT, 0, none⟩))) := ownsRow_setCell_below (ownsRow_setCell_below O1 hbc _) hbc _
  have F := (show Hid _ from And.intro R5 (And.intro P1 (And.intro P2 B5)))
  obtain ⟨r, hr⟩ : ∃ r, r = k % l.length := ⟨_, rfl⟩
  have HR : Hid (r = k % l.length) := hr
  have hmod : (k : Int) % (l.length : Int) = (r : Int) := by rw [hr]; exact (Int.natCast_emod _ _).symm
  obtain ⟨N, hN⟩ : ∃ N, N = l.length := ⟨_, rfl⟩
  rw [← hN] at hmod ⊢
  have hN0 : ¬ (N : Int) = 0 := by omega
  have HN : Hid (N = l.length) := hN
  have hrb : r ≤ 255 := by rw [hr]; exact Nat.le_trans (Nat.mod_le _ _) hk
  clear P1 P2 hr hN R5 B5 o1 o1' O1 b1 R2 O2 B2 R3 HX c0 c1 c2 f1 f2
  go_wp2_with fail
  go_ret
  exact ⟨by show Ending.returned (Value.int .i64 ((k : Int) % (N : Int))) = _; rw [hmod, HR.out], _, F.out.1, F.out.2.1, F.out.2.2.1, F.out.2.2.2⟩

/-- a stroke, and the method's name -/
abbrev stroke : String := String.singleton '/'
abbrev nChoose : String := "ex" ++ "ample.com" ++ stroke ++ "trickwright" ++ stroke ++ "trickwright" ++ stroke ++ "engine" ++ stroke ++ "game.choose"
theorem meth68 (p : Option Addr) (w : World) : (method 309 45 (.pointer p) nChoose).run Ybad.prog w = .ok (68, .pointer p) w := by kernel_rfl

set_option maxRecDepth 100000 in
set_option maxHeartbeats 1000000 in
theorem decide_any (B bc bT bp n k pl : Nat) (v : Value) (l : List Mv) (w : World) (hr : w.rowIs bc 48 5 (chc k 0 0 (.slice none 0 0) (.pointer none))) (hown : OwnsM B v l w) (hl : 0 < l.length) (hl' : l.length ≤ 1000) (hk : k ≤ 255) (hbc : bc < B) (hB : B ≤ w.heap.size)
    (t3 : w.cell? ⟨bT, 3, none⟩ = some (.slice (some ⟨bp, 0, none⟩) n n)) (t5 : w.cell? ⟨bT, 5, none⟩ = some v) (hp : w.cell? ⟨bp, pl, none⟩ = some (.iface 45 (.pointer (some ⟨bc, 0, none⟩)))) (hpl : pl < n) :
    Calls Ybad.prog 21 #[.pointer (some ⟨bT, 0, none⟩), .int .i64 pl] w fun e w' => e = .returned (.int .i64 ((k % l.length : Nat) : Int)) ∧
      ∃ seen, w'.rowIs bc 48 5 (chc k 1 pl seen (.pointer (some ⟨bT, 0, none⟩))) ∧ OwnsM B seen l w' ∧ OwnsM B v l w' ∧ But1 w.heap.size bc w w' := by
  have hme := meth68 (some ⟨bc, 0, none⟩)
  simp [nChoose, stroke] at hme
  have hpn : (pl : Int) < (n : Int) := by omega
  obtain ⟨a0, n0, d0, rfl⟩ := hown.shape'
  have HR := (show Hid _ from hr)
  have HO := (show Hid _ from hown)
  clear hr hown
  go_enter Ybad.func21, Ybad.ntmps21
  go_wp2_with fail
  go_region_with (go_at_call 68; refine (choose_any B bc bT k pl _ l _ ?_ ?_ hl hl' hk hbc ?_).mono ?_; (· exact HR.out); (· exact HO.out); (· exact hB); (rintro e w1 ⟨rfl, seen, R⟩; have H1 := (show Hid _ from R); clear R))
  all_goals
    go_wp2_with fail
    go_ret
    exact ⟨rfl, seen, H1.out.1, H1.out.2.1, H1.out.2.2.1, ⟨H1.out.2.2.2.os, H1.out.2.2.2.tape, H1.out.2.2.2.output, H1.out.2.2.2.size, H1.out.2.2.2.block⟩⟩
end Go.Proofs.YbulkbldsDoor
