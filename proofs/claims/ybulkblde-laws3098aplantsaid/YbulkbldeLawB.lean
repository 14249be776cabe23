import Derived.Test.YbulkbldeNew
import Derived.Test.YbulkbldePlant
import Derived.Test.YbulkbldePlain
import Derived.Deep.CutBlock
import Derived.Test.YbulkbldeTail15
namespace Go.Proofs.Ybulkblde
open Go.RowKit
attribute [local go_sem ↓] Go.wp_at_zero Go.wp_at_succ

set_option maxRecDepth 100000 in
set_option maxHeartbeats 20000000 in
theorem law_any (seed : Nat) (nb kb mb : Int) (hs : seed < 18446744073709551616) (hb1 : 0 ≤ nb ∧ nb ≤ 255) (hb2 : 0 ≤ kb ∧ kb ≤ 255) (hb3 : 0 ≤ mb ∧ mb ≤ 255) (w : World) :
    Calls Yba.prog 3 #[.int .u64 seed, .int .u8 nb, .int .u8 kb, .int .u8 mb] w fun e w' => e = .returned (.bool true) ∧ Below w.heap.size w w' := by
  obtain ⟨n, en, hn, hn'⟩ : ∃ n : Nat, 2 + nb % 15 = (n : Int) ∧ 2 ≤ n ∧ n ≤ 16 := ⟨(2 + nb % 15).toNat, by omega, by omega, by omega⟩
  obtain ⟨k, ek, hk, hk'⟩ : ∃ k : Nat, 2 + kb % 15 = (k : Int) ∧ 2 ≤ k ∧ k ≤ 16 := ⟨(2 + kb % 15).toNat, by omega, by omega, by omega⟩
  obtain ⟨m, em, hm, hm'⟩ : ∃ m : Nat, 1 + mb % 26 = (m : Int) ∧ 1 ≤ m ∧ m ≤ 26 := ⟨(1 + mb % 26).toNat, by omega, by omega, by omega⟩
  obtain ⟨b1, b1'⟩ := hb1
  obtain ⟨b2, b2'⟩ := hb2
  obtain ⟨b3, b3'⟩ := hb3
  go_enter Yba.func3, Yba.ntmps3
  go_wp2_with fail
  clear en ek em b1 b1' b2 b2' b3 b3'
  refine (newGen_any n k m seed hn hn' hk hk' hm hm' hs _).mono ?_
  rintro e w1 ⟨rfl, p, s, N⟩
  obtain ⟨tot, htot⟩ : ∃ tot, tot = n * k := ⟨_, rfl⟩
  rw [← htot] at N
  have htb : tot ≤ 256 := by rw [htot]; exact Nat.mul_le_mul hn' hk'
  have ht0 : 0 < tot := by rw [htot]; exact Nat.mul_pos (by omega) (by omega)
  have hmul : IntKind.i64.wrap ((n : Int) * (k : Int)) = (tot : Int) := by rw [← Int.natCast_mul, ← htot, IntKind.wrap_i64]; omega
  have HT : Hid (tot = n * k) := htot
  clear htot
  have x4 := N.gs.c4
  go_wp2_with fail
  refine (clone_steps (w.heap.size + 3) tot (stc s) ht0 (by omega) _ N.st (fun i _ => stc_one s i)).mono ?_
  rintro e w2 ⟨g1, cap1, rfl, C1⟩
  have sz1 := N.size
  have sz2 := C1.bel.size
  have blk2 : ∀ b, b < w.heap.size + 5 → w2.heap[b]? = w1.heap[b]? := fun b hb => C1.bel.block b (by omega)
  have G2 := N.gs.of_block (blk2 _ (by omega))
  have R2 := N.row.of_block (blk2 (w.heap.size + 4) (by omega))
  have x5 := G2.c5
  have HB2 := (show Hid _ from blk2)
  clear x4 blk2
  go_wp2_with fail
  refine (clone_ints (w.heap.size + 4) n _ (by omega) (by omega) _ R2 (fun i _ => rfl)).mono ?_
  rintro e w3 ⟨g2, cap2, rfl, C2⟩
  have sz3 := C2.bel.size
  have blk3 : ∀ b, b < w.heap.size + 5 → w3.heap[b]? = w1.heap[b]? := fun b hb => (C2.bel.block b (by omega)).trans (HB2.out b hb)
  have G3 := N.gs.of_block (blk3 _ (by omega))
  have R3 := N.row.of_block (blk3 (w.heap.size + 4) (by omega))
  have S3 := N.st.of_block (blk3 (w.heap.size + 3) (by omega))
  have gen3 : Gen (w.heap.size + 1) w3 := by
    obtain ⟨a, b, h1, h2, h3⟩ := N.gen
    exact ⟨a, b, h1, h2, by rw [blk3 _ (by omega)]; exact h3⟩
  clear x5 R2 G2 HB2 blk3
  go_wp2_with fail
  refine (plant_any (w.heap.size + 2) (w.heap.size + 1) (w.heap.size + 3) (w.heap.size + 4) n k m tot p s hn hn' hk hk' hm hm' HT.out _ G3 gen3 R3 N.prm.lt S3 (fun id hid => by have := (N.ok id hid).2.2; omega) (by omega) (by omega) (by omega) (by omega) (by omega)).mono ?_
  rintro e w4 ⟨first, second, read, x, at_, bi, hfs, hsk, hrk, hx, hat, hbi, rfl, Q⟩
  have hlt1 := C1.lt
  have hlt2 := C2.lt
  have hl1 := C1.size
  have hl2 := C2.size
  obtain ⟨c, hc1, hc2⟩ := Q.ids
  have L : LSt w n tot p s (plS s k (p 0) (p 1) first second read x) (idf p k at_ (p 0) (p 1) first) bi g1 g2 w4 := by
    refine ⟨?_, by have := Q.size; omega, by have := Q.size; omega, by have := Q.size; omega, hc1.lt, ?_, ?_, ?_, ?_, ?_⟩
    · refine (N.bel.trans (C1.bel.mono (by omega))).trans ((C2.bel.mono (by omega)).trans ⟨Q.os, Q.tape, Q.output, Q.size, fun b hb => Q.block b (by omega) (by omega) (by omega)⟩)
    · rw [World.cell?_of_block (w := w3) (Q.block _ (by simp; omega) (by simp) (by simp))]
      exact G3.c4
    · intro i hi
      exact Q.st.cell hi
    · intro i hi
      rw [World.cell?_of_block (w := w3) (Q.block _ (by simp; omega) (by simp; omega) (by simp; omega)), C2.bel.cell (by simp; omega)]
      exact C1.cell i hi
    · intro i hi
      rw [World.cell?_of_block (w := w3) (Q.block _ (by simp; omega) (by simp; omega) (by simp; omega))]
      exact C2.cell i hi
    · intro i hi
      rw [hc1.cell hi, hc2 i hi]
  have y5 : w4.cell? ⟨w.heap.size + 2, 5, none⟩ = some (.slice (some ⟨w.heap.size + 4, 0, none⟩) n n) := by
    rw [World.cell?_of_block (w := w3) (Q.block _ (by simp; omega) (by simp) (by simp))]
    exact G3.c5
  have yp : ∀ i, i < n → w4.cell? ⟨w.heap.size + 4, i, none⟩ = some (.int .i64 ((p i : Nat) : Int)) := fun i hi => by
    rw [World.cell?_of_block (w := w3) (Q.block _ (by simp; omega) (by simp) (by simp))]
    exact R3.cell hi
  have Hyp := (show Hid _ from yp)
  have ok := (show Hid _ from N.ok)
  have prm := N.prm
  clear yp N C1 C2 Q hc1 hc2 G3 R3 S3 gen3 hl1 hl2 hlt1 hlt2 sz1 sz2 sz3 hbi c
  go_wp2_with fail
  refine (equal_ints (w.heap.size + 4) g2 n cap2 (fun i => (p i : Int)) (by omega) _ Hyp.out L.pr).mono ?_
  rintro e w5 ⟨rfl, q, rfl⟩
  clear y5 Hyp
  obtain ⟨w5, hw5⟩ : ∃ W, W = w4.drewN q := ⟨_, rfl⟩
  have L5 : LSt w n tot p s (plS s k (p 0) (p 1) first second read x) (idf p k at_ (p 0) (p 1) first) bi g1 g2 w5 := by
    subst hw5
    exact ⟨below_drewN L.bel q, L.sz, L.l1, L.l2, L.l3, L.gs, L.st, L.be, L.pr, L.ids⟩
  rw [← hw5]
  clear hw5 L
  obtain ⟨sP, hsP⟩ : ∃ sP, sP = plS s k (p 0) (p 1) first second read x := ⟨_, rfl⟩
  obtain ⟨g, hg⟩ : ∃ g, g = idf p k at_ (p 0) (p 1) first := ⟨_, rfl⟩
  have glt : ∀ i, i < tot → g i < tot := by rw [hg, HT.out]; exact fun i hi => idf_lt prm hn (by omega) hat i hi
  have ginj : ∀ i i', i < tot → i' < tot → g i = g i' → i = i' := by rw [hg, HT.out]; exact fun i i' hi hi' h => idf_inj prm hn (by omega) hat i i' hi hi' h
  have gps : ∀ q j, q < n → j < k → g (ps k at_ first q j) = p q * k + j ∧ ps k at_ first q j < tot := by rw [hg, HT.out]; exact fun q j hq hj => ⟨idf_ps hn (by omega) hq hj, ps_lt_tot hn (by omega) hat hq hj⟩
  rw [← hsP, ← hg] at L5
  have HSP : Hid (sP = plS s k (p 0) (p 1) first second read x) := hsP
  clear hsP hg
  have GLT := (show Hid _ from glt)
  have GINJ := (show Hid _ from ginj)
  have GPS := (show Hid _ from gps)
  clear glt ginj gps
  have p0 := L5.pr 0 (by omega)
  have p1 := L5.pr 1 (by omega)
  have n0' : 0 < n := by omega
  have n1' : 1 < n := by omega
  go_wp2_with fail
  go_quiet (fail)
  clear p0 p1
  have hnn : ((tot : Int) != (tot : Int)) = false := by simp
  have x4 := L5.gs
  have hmk3 := run_make_row' (P := Yba.prog) 34 3 (.int .i64 0) 8 Yba.underlying34 Yba.info3' rfl .i64 .i64 tot (by omega) (by omega)
  go_upto_block 0 with fail
  clear hmk3 x4 hnn
  have B0 : Below w5.heap.size w5 ((w5.drewN nq).alloc (.cells (madeCells #[.int .i64 0] tot) 3)) := (below_drewN (Below.refl _ _) nq).alloc (Nat.le_refl _) _
  have R0 : ((w5.drewN nq).alloc (.cells (madeCells #[.int .i64 0] tot) 3)).rowIs w5.heap.size 3 tot (fun _ => .int .i64 0) := World.rowIs_made (w5.drewN nq) (.int .i64 0) tot 3
  go_cut [104] from 104 to 105 (fun s104 wx => s104 = .int .i64 (tot : Int) ∧ Below w5.heap.size w5 wx ∧ wx.rowIs w5.heap.size 3 tot (fun _ => .int .i64 (-1)))
  case first =>
    go_wp2_with fail
    go_loopw [104] (fun i wr => ∃ d : Nat, d ≤ tot ∧ i = .int .i64 d ∧ Below w5.heap.size w5 wr ∧ wr.rowIs w5.heap.size 3 tot (fun j => .int .i64 (if j < d then -1 else 0))) (fun i _ => tot - (intOf i).toNat)
    case atStart => exact ⟨0, Nat.zero_le _, rfl, B0, R0.congr (fun i _ => by rw [if_neg (by omega)])⟩
    case round =>
      obtain ⟨d, hd, rfl, B, R⟩ := hrel
      clear B0 R0
      by_cases hlt : d < tot
      · have c1 := R.cell hlt
        have c2 := R.frozen d
        have B' := B.setCell (p := ⟨w5.heap.size, d, none⟩) (Nat.le_refl _) (.int .i64 (-1))
        have R' := (R.set d (.int .i64 (-1))).congr (g := fun j => .int .i64 (if j < d + 1 then -1 else 0)) (by
          intro i hi
          by_cases e : i = d
          · subst e; simp
          · simp only [if_neg e]
            by_cases e2 : i < d
            · rw [if_pos e2, if_pos (by omega)]
            · rw [if_neg e2, if_neg (by omega)])
        obtain ⟨v1, c1'⟩ : ∃ v, wr.cell? ⟨w5.heap.size, d, none⟩ = some v := ⟨_, c1⟩
        clear B R c1
        go_wp2_with fail
        go_roundw
        case rel => exact ⟨d + 1, by omega, by go_num, B', R'⟩
        case measure => simp [intOf]; omega
      · obtain rfl : d = tot := by omega
        go_wp2_with fail
        go_meet
        case rel => exact ⟨rfl, B, R.congr (fun i hi => by rw [if_pos hi])⟩
  case rest =>
    obtain ⟨rfl, B1, R1⟩ := hcut
    clear B0 R0
    go_upto_block 2 with fail
    go_cut [113] from 113 to 114 (fun s113 wx => s113 = .int .i64 (tot : Int) ∧ Below w5.heap.size w5 wx ∧ ∃ f : Nat → Int, wx.rowIs w5.heap.size 3 tot (fun x => .int .i64 (f x)) ∧ ∀ i, i < tot → f (g i) = i)
    case first =>
      go_wp2_with fail
      go_loopw [113] (fun i wr => ∃ d : Nat, d ≤ tot ∧ i = .int .i64 d ∧ Below w5.heap.size w5 wr ∧ ∃ f : Nat → Int, wr.rowIs w5.heap.size 3 tot (fun x => .int .i64 (f x)) ∧ (∀ i, i < d → f (g i) = i) ∧ ∀ x, x < tot → (∀ i, i < d → g i ≠ x) → f x = -1) (fun i _ => tot - (intOf i).toNat)
      case atStart => exact ⟨0, Nat.zero_le _, rfl, B1, fun _ => -1, R1, fun i h => absurd h (by omega), fun _ _ _ => rfl⟩
      case round =>
        obtain ⟨d, hd, rfl, B, f, R, f1, f2⟩ := hrel
        clear B1 R1
        have L6 := L5.grow B
        by_cases hlt : d < tot
        · have c1 := L6.ids d hlt
          have hgl := GLT.out d hlt
          have hm1 : f (g d) = -1 := f2 (g d) hgl (fun i hi e => by have := GINJ.out i d (by omega) hlt e; omega)
          have c2 := R.cell hgl
          rw [hm1] at c2
          have c3 := R.frozen (g d)
          have B' := B.setCell (p := ⟨w5.heap.size, g d, none⟩) (Nat.le_refl _) (.int .i64 d)
          have R' := (R.set (g d) (.int .i64 (d : Int))).congr (g := fun x => .int .i64 ((fun x => if x = g d then (d : Int) else f x) x)) (by
            intro i hi
            by_cases e : i = g d
            · simp [e]
            · simp [e])
          have f1' : ∀ i, i < d + 1 → (fun x => if x = g d then (d : Int) else f x) (g i) = i := by
            intro i hi
            by_cases e : i = d
            · subst e; simp
            · have : g i ≠ g d := fun h => e (GINJ.out i d (by omega) hlt h)
              simp only [if_neg this]
              exact f1 i (by omega)
          have f2' : ∀ x, x < tot → (∀ i, i < d + 1 → g i ≠ x) → (fun x => if x = g d then (d : Int) else f x) x = -1 := by
            intro x hx h
            have : x ≠ g d := fun e => h d (by omega) e.symm
            simp only [if_neg this]
            exact f2 x hx (fun i hi => h i (by omega))
          have F' := (show Hid _ from (And.intro f1' f2'))
          have i1 : decide (((g d : Nat) : Int) < 0) = false := decide_eq_false (by omega)
          have i2 : decide ((tot : Int) ≤ ((g d : Nat) : Int)) = false := decide_eq_false (by omega)
          have hgl' : ((g d : Nat) : Int) < (tot : Int) := by omega
          clear B R f1 f2 L6 hm1 f1' f2'
          go_wp2_with fail
          go_roundw
          case rel => exact ⟨d + 1, by omega, by go_num, B', _, R', F'.out.1, F'.out.2⟩
          case measure => simp [intOf]; omega
        · obtain rfl : d = tot := by omega
          clear L6
          go_wp2_with fail
          go_meet
          case rel => exact ⟨rfl, B, f, R, f1⟩
    case rest =>
      obtain ⟨rfl, B2, f, R2, hf⟩ := hcut
      clear B1 R1
      have hpos : ∀ q j, q < n → j < k → f (p q * k + j) = (ps k at_ first q j : Int) := by
        intro q j hq hj
        obtain ⟨a, b⟩ := GPS.out q j hq hj
        rw [← a]
        exact hf _ b
      clear hf
      have HPOS := (show Hid _ from hpos)
      clear hpos
      have posc : ∀ a, a < tot → wc.cell? ⟨w5.heap.size, a, none⟩ = some (.int .i64 (f a)) := fun a ha => R2.cell ha
      have POSC := (show Hid _ from posc)
      clear posc
      have psb : ∀ q j, q < n → j < k → ps k at_ first q j < 256 := fun q j hq hj => by have := (GPS.out q j hq hj).2; omega
      have PSB := (show Hid _ from psb)
      clear psb
      have L6 := L5.grow B2
      clear R2 B2 L5 GPS GINJ GLT
      refine ‹∀ (a : Act) (w : World), Code.wp Yba.prog _ _ a w → _› _ _ ?_
      exact tail15 hn hn' hk hk' hm' htb HT prm hfs hsk hrk hx hat ok HSP L6 HPOS POSC PSB
end Go.Proofs.Ybulkblde
