/-
  Flush into the writer, with the strong frame.
-/
import Derived.Test.YbulkbldsDoorLineF
import Derived.Test.YbulkbldsDoorFlushOk
import Derived.Laws.IdiomCopy
namespace Go.Proofs.YbulkbldsDoor
open Go.Shelf Go.RowKit
variable {A B bt bw bb bz : Nat} {w0 : World}

theorem Owns.keep {v : Value} {l : List UInt8} {w w' : World} (h : Owns B v l w) (hk : ∀ k, v.ownBlock = some k → w'.heap[k]? = w.heap[k]?) : Owns B v l w' := by
  obtain ⟨x1, x2 | ⟨g, cap, cur, e1, e2, e3, e4⟩⟩ := h
  · exact ⟨x1, .inl x2⟩
  · exact ⟨x1, .inr ⟨g, cap, cur, e1, e2, (hk g (by rw [e1]; rfl)).trans e3, e4⟩⟩

set_option maxRecDepth 100000 in
theorem zzw_F (zv : Value) (zc : List UInt8) (bz : Nat) (w : World) (hz : w.rowIs bz 27 2 (zzc zv .nilIface)) (ho : Owns B zv zc w) (hbz : bz < B) (hB : B ≤ w.heap.size) (m : List UInt8) (hm : m.length + zc.length ≤ 10000000) (ad : Addr) (k cp : Nat) (hk : k = m.length)
    (hc : ∀ j (b : UInt8), m[j]? = some b → w.cell? (ad.add j) = some (.int .u8 (b.toNat : Int))) :
    Calls Ybad.prog 66 #[.pointer (some ⟨bz, 0, none⟩), .slice (some ad) k cp] w fun e w' => e = .returned (.tuple #[.int .i64 k, .nilIface]) ∧
      ∃ a n c w1, w' = w1.setCell ⟨bz, 0, none⟩ (.slice a n c) ∧ Fr zv w (.slice a n c) w1 ∧ Owns B (.slice a n c) (zc ++ m) w' := by
  have z0 : w.cell? ⟨bz, 0, none⟩ = some zv := hz.cell (by omega)
  have z1 : w.cell? ⟨bz, 1, none⟩ = some .nilIface := hz.cell (by omega)
  have zf := hz.frozen 0
  have HO : Hid (Owns B zv zc w) := ho
  have HC := (show Hid _ from hc)
  have HK : Hid (k = m.length) := hk
  clear hc hz hk ho
  go_enter Ybad.func66, Ybad.ntmps66
  go_wp2_with (at_builtin; refine wp_rowF w rfl _ _ rfl m HO.out rfl hB (by omega) ad cp k HK.out rfl HC.out ?_)
  intro a1 n1 c1 w1 o1 f1
  have b1 := f1.below HO.out hB
  have k0 := (b1.cell (p := ⟨bz, 0, none⟩) hbz).trans z0
  have k1 := (b1.frozen (p := ⟨bz, 0, none⟩) hbz).trans zf
  have O2 : Hid (Owns B (.slice a1 n1 c1) (zc ++ m) (w1.setCell ⟨bz, 0, none⟩ (.slice a1 n1 c1))) := ownsRow_setCell_below o1 hbz _
  have F1 := (show Hid _ from f1)
  clear o1 b1 f1
  go_wp2
  go_ret2
  exact ⟨rfl, _, _, _, w1, rfl, F1.out, O2.out⟩

attribute [local go_sem ↓] hideSlc

theorem held_atF {w w1 w2 : World} {zv v x : Value} {zc : List UInt8} {i : Nat} (hn : bz ≠ bw) (hlt : bw < B) (hB : B ≤ w.heap.size) (ho : Owns B zv zc w) (hw : w2 = w1.setCell ⟨bz, 0, none⟩ v) (hf : Fr zv w.drew v w1) (h : w.cell? ⟨bw, i, none⟩ = some x) : w2.cell? ⟨bw, i, none⟩ = some x := by
  rw [hw, World.cell?_setCell_far _ _ _ _ (by simpa using hn), (hf.below (w := w.drew) ho hB).cell (p := ⟨bw, i, none⟩) hlt]
  exact h
theorem frozen_atF {w w1 w2 : World} {zv v : Value} {zc : List UInt8} {i : Nat} (hn : bz ≠ bw) (hlt : bw < B) (hB : B ≤ w.heap.size) (ho : Owns B zv zc w) (hw : w2 = w1.setCell ⟨bz, 0, none⟩ v) (hf : Fr zv w.drew v w1) (h : w.frozen? ⟨bw, i, none⟩ = false) : w2.frozen? ⟨bw, i, none⟩ = false := by
  rw [World.frozen?_of_block (w := w) (by rw [hw, Below.heap_setCell _ _ _ _ (by simpa using hn.symm)]; exact (hf.below (w := w.drew) ho hB).block bw hlt)]; exact h
theorem Fr.undrew {zv v : Value} {w w1 : World} (h : Fr zv w.drew v w1) : Fr zv w v w1 := ⟨h.os, h.tape, h.output, h.size, h.block, h.own⟩

set_option maxRecDepth 100000 in
theorem flush_F (zv : Value) (zc : List UInt8) (bw bb bz : Nat) (c : List UInt8) (w : World) (h : Bf bw bb bz c w) (hc : 0 < c.length) (hc' : c.length ≤ 4096) (hz : w.rowIs bz 27 2 (zzc zv .nilIface)) (ho : Owns B zv zc w) (hzc : zc.length ≤ 1000000) (hn : bz ≠ bw) (hlt : bw < B) (hltz : bz < B) (hB : B ≤ w.heap.size) :
    Calls Ybad.prog 18 #[.pointer (some ⟨bw, 0, none⟩)] w fun e w' => e = .returned .nilIface ∧
      ∃ a n c' w1, w' = (w1.setCell ⟨bz, 0, none⟩ (.slice a n c')).setCell ⟨bw, 2, none⟩ (.int .i64 0) ∧ Fr zv w (.slice a n c') w1 ∧ Owns B (.slice a n c') (zc ++ c) w' := by
  have c0 := h.c0
  have c1 := h.c1
  have c2 := h.c2
  have c3 := h.c3
  have f2 := h.wr.frozen 2
  have HH : Hid (Bf bw bb bz c w) := h
  have HZ : Hid (w.rowIs bz 27 2 (zzc zv .nilIface)) := hz
  have HO : Hid (Owns B zv zc w) := ho
  obtain ⟨N, hN⟩ : ∃ N, N = c.length := ⟨_, rfl⟩
  rw [← hN] at c2
  have HN : Hid (N = c.length) := hN
  have hNp : 0 < N := by omega
  have hN4 : N ≤ 4096 := by omega
  have hsl := slc_to bb N 4096 hN4
  clear h hz hN ho
  have hme := meth66 (some ⟨bz, 0, none⟩)
  go_enter Ybad.func18, Ybad.ntmps18
  go_wp2_with fail
  go_region_held3 (fun w' => w'.cell? ⟨bw, 1, none⟩ = some (.slice (some ⟨bb, 0, none⟩) 4096 4096) ∧ w'.cell? ⟨bw, 2, none⟩ = some (.int .i64 N) ∧ w'.cell? ⟨bw, 3, none⟩ = some (.iface 22 (.pointer (some ⟨bz, 0, none⟩))))
    (first | exact ⟨c1, c2, c3⟩ | exact ⟨e1, e2, e3⟩)
    (first | (go_at_call 66; refine (zzw_F (B := B) zv zc bz _ ?_ ?_ hltz ?_ c (by omega) ⟨bb, 0, none⟩ N 4096 HN.out ?_).mono ?_; (· exact HZ.out); (· exact HO.out); (· exact hB); (· exact HH.out.bytes); (rintro e w2 ⟨rfl, a1, n1, d1, w1, hw2, f1, o1⟩; have e1 := held_atF hn hlt hB HO.out hw2 f1 c1; have e2 := held_atF hn hlt hB HO.out hw2 f1 c2; have e3 := held_atF hn hlt hB HO.out hw2 f1 c3; have g2 := frozen_atF hn hlt hB HO.out hw2 f1 f2; have HW2 := (show Hid _ from hw2); clear hw2)))
  have O2 : Hid (Owns B (.slice a1 n1 d1) (zc ++ c) (w2.setCell ⟨bw, 2, none⟩ (.int .i64 0))) := ownsRow_setCell_below o1 hlt _
  have F1 : Hid (Fr zv w (.slice a1 n1 d1) w1) := f1.undrew
  have hnn : ¬ (N : Int) < (N : Int) := by omega
  clear c0 c1 c2 c3 f2 f1 o1
  go_wp2_with fail
  go_ret
  exact ⟨rfl, a1, n1, d1, w1, by rw [← HW2.out], F1.out, O2.out⟩
end Go.Proofs.YbulkbldsDoor
