/-
  The law LawS3099ASeq, walked.
-/
import Derived.Test.YbulkbldsDoorPassQ
import Derived.Lib.BufferRead
import Derived.Deep.QuietTactic
import Derived.BigQuiet
namespace Go.Proofs.YbulkbldsDoor
open Go.Shelf Go.RowKit

set_option maxRecDepth 100000 in
theorem cv_ownA {B : Nat} {v : Value} {l : List UInt8} {w : World} (h : Owns B v l w) : (cv v).run Ybad.prog w = .ok (.string ⟨l.toArray⟩) w := by
  obtain ⟨hlen, ⟨h0, h1⟩ | ⟨g, cap, cur, hv, hb, hh, _⟩⟩ := id h
  · subst h0
    obtain rfl : l = [] := List.length_eq_zero_iff.1 h1
    exact Lib.run_convert_nil_bytes w 23 9 5 0 Ybad.underlying23 Ybad.underlying5 Ybad.underlying9
  · subst hv
    refine run_convert_bytes_back w 23 9 5 ⟨g, 0, none⟩ cap l Ybad.underlying23 Ybad.underlying5 Ybad.underlying9 ?_
    intro j hj
    refine World.ownsRow.cells h rfl j _ ?_
    simp [Lib.byteCells, hj]

theorem apart_nil (v : Value) : Apart (.slice none 0 0) v := fun k h => by simp [Value.ownBlock] at h

/-- The lines of the first j players. -/
def lines (f : Nat → Int) (j : Nat) : List UInt8 := (List.range j).flatMap (fun i => lineOf (f i))
theorem lines_succ (f : Nat → Int) (j : Nat) : lines f (j + 1) = lines f j ++ lineOf (f j) := by
  unfold lines
  rw [List.range_succ, List.flatMap_append]
  simp
theorem lines_len (f : Nat → Int) (n : Nat) (hf : ∀ i, i < n → -9223372036854775808 ≤ f i ∧ f i ≤ 9223372036854775807) : ∀ j, j ≤ n → (lines f j).length ≤ 60 * j
  | 0, _ => by simp [lines]
  | j + 1, h => by
    have h1 := lines_len f n hf j (by omega)
    have h2 := lineOf_len' (f j) (hf j (by omega)).1 (hf j (by omega)).2
    rw [lines_succ, List.length_append]
    omega

set_option maxRecDepth 100000 in
theorem seq_long (a0 : Option Addr) (len cap : Nat) (w : World) (hn : 1024 < len) : Calls Ybad.prog 4 #[.slice a0 len cap] w fun e w' => e = .returned (.bool true) ∧ w' = w := by
  have h : (1024 : Int) < (len : Int) := by omega
  go_enter Ybad.func4, Ybad.ntmps4
  go_wp2_with fail
  go_ret
  exact ⟨rfl, rfl⟩

attribute [local go_sem ↓] hideCv

set_option maxRecDepth 100000 in
set_option maxHeartbeats 1000000 in
theorem seq_row (a0 : Option Addr) (len cap : Nat) (f : Nat → Int) (w : World) (hn : len ≤ 1024) (hf : ∀ i, i < len → -9223372036854775808 ≤ f i ∧ f i ≤ 9223372036854775807)
    (hcell : ∀ i, i < len → ∃ b off, a0 = some ⟨b, off, none⟩ ∧ b < w.heap.size ∧ w.cell? ⟨b, off + i, none⟩ = some (.int .i64 (f i)))
    (htab : Lib.TabBelow Ybad.prog w.heap.size w nPow .u64 Lib.pow10Tab) :
    Calls Ybad.prog 4 #[.slice a0 len cap] w fun e w' => e = .returned (.bool true) ∧ Below w.heap.size w w' := by
  have HTB := (show Hid _ from htab)
  have HC := (show Hid _ from hcell)
  have HF := (show Hid _ from hf)
  have HL := (show Hid _ from lines_len f len hf)
  clear htab hcell hf
  have hnl : ¬ (1024 : Int) < (len : Int) := by omega
  go_enter Ybad.func4, Ybad.ntmps4
  go_wp2_with fail
  refine (newTrace_any _ _).mono ?_
  rintro e w3 ⟨rfl, cur, hlen, hw3⟩
  have hz : (w.alloc (.cells #[.slice none 0 0, .nilIface] 27)).rowIs w.heap.size 27 2 (zzc (.slice none 0 0) .nilIface) := by
    refine ⟨_, Go.Deep.blk_alloc_new _ _, rfl, ?_⟩
    intro i hi
    match i, hi with
    | 0, _ => rfl
    | 1, _ => rfl
  obtain ⟨P, T⟩ := tr_new (A := w.heap.size) _ w cur hlen w.heap.size _ hz (by simp) (by omega) ((Below.refl _ _).alloc (Nat.le_refl _) _)
  rw [← hw3] at T
  clear hw3 hlen hz
  generalize (w.alloc (.cells #[.slice none 0 0, .nilIface] 27)).heap.size = M at P T ⊢
  have T0 : Hid (Tq w.heap.size (M + 3) (M + 2) (M + 1) M w.heap.size w (.slice none 0 0) [] (.slice none 0 0) [] (.slice none 0 0) [] 0 [] w3) :=
    ⟨T.bel, T.ln, T.bf, by simp, T.zw, Owns.nil _ _, Owns.nil _ _, apart_nil _, apart_nil _, apart_nil _⟩
  clear T
  go_wp2_with fail
  go_loopw [5, 6] (fun s5 i wr => ∃ j : Nat, j ≤ len ∧ i = .int .i64 j ∧ ∃ zv zc lv l mem c, Tq w.heap.size (M + 3) (M + 2) (M + 1) M w.heap.size w zv zc s5 (lines f j) lv l mem c wr ∧ zc ++ c = lines f j) (fun _ i _ => len - (intOf i).toNat)
  case atStart => exact ⟨0, Nat.zero_le _, rfl, _, _, _, _, _, _, T0.out, rfl⟩
  case round =>
    obtain ⟨j, hj, rfl, zv, zc, lv, l, mem, c, T, hzc⟩ := hrel
    have hL := HL.out j hj
    have hzl : zc.length ≤ 900000 := by have := congrArg List.length hzc; simp at this; omega
    have HH := (show Hid _ from T)
    have HZ := (show Hid _ from hzc)
    clear T0
    by_cases hlt : j < len
    · obtain ⟨b, off, rfl, hb, hc⟩ := HC.out j hlt
      obtain ⟨f0, f1⟩ := HF.out j hlt
      have k1 := (T.bel.cell (p := ⟨b, off + j, none⟩) hb).trans hc
      have jl : (j : Int) < (len : Int) := by omega
      have HCJ := (show Hid _ from hc)
      clear T hzc hc
      go_wp2_with fail
      refine (pass_tq P (f j) f0 f1 HH.out hzl HTB.out).mono ?_
      rintro e w4 ⟨rfl, zv', zc', c', lv', l', mem', e4, T4⟩
      have k2 := (T4.bel.cell (p := ⟨b, off + j, none⟩) hb).trans HCJ.out
      have H4 := (show Hid _ from And.intro e4 T4)
      clear e4 T4 k1
      go_wp2_with fail
      refine (zline_F (M + 3) _ (lines f j) (f j) f0 f1 w4 H4.out.2.wo H4.out.2.ln.hB (by omega)).mono ?_
      rintro e w5 ⟨a5, n5, c5, rfl, o5, F5⟩
      have T5 := H4.out.2.want P o5 F5
      have e5 : zc' ++ c' = lines f (j + 1) := by rw [H4.out.1, lines_succ, ← List.append_assoc, HZ.out]
      rw [← lines_succ] at T5
      have H5 := (show Hid _ from And.intro e5 T5)
      clear o5 F5 T5 e5 k2
      go_wp2_with fail
      refine ⟨⟨j + 1, by omega, by go_num, zv', zc', lv', l', mem', c', H5.out.2, H5.out.1⟩, ?_⟩
      show len - ((j : Int) + 1).toNat < len - ((j : Int)).toNat
      omega
    · obtain rfl : j = len := by omega
      clear T hzc
      go_wp2_with fail
      refine (tflush_tq P HH.out hzl).mono ?_
      rintro e w5 ⟨rfl, b5, zv', z5, o5, o5', s5, s5'⟩
      rw [HZ.out] at o5
      have q1 := fun q => cv_ownA (w := w5.drewN q) (show Owns (M + 3) zv' (lines f j) (w5.drewN q) from o5)
      have q2 := fun q => cv_ownA (w := w5.drewN q) (show Owns (M + 3) _ (lines f j) (w5.drewN q) from o5')
      have HB := (show Hid _ from b5)
      clear o5 o5' b5
      go_wp2_with fail
      go_quiet (fail)
      go_wp2_with fail
      go_ret
      exact ⟨rfl, ⟨HB.out.os, HB.out.tape, HB.out.output, HB.out.size, HB.out.block⟩⟩
end Go.Proofs.YbulkbldsDoor
