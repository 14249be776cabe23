/-
  Flush into a writer that takes all.
-/
import Derived.Test.YbulkbldsDoorFlush
import Derived.Test.YbulkbldsDoorZint
import Derived.Laws.IdiomStrings
namespace Go.Proofs.YbulkbldsDoor
open Go.Shelf Go.RowKit
variable {A B bt bw bb bz : Nat} {w0 : World} {zz : Nat → Value}

set_option maxRecDepth 100000 in
theorem zzw_ok (bz : Nat) (w : World) (hz : w.rowIs bz 27 2 (zzc (.slice none 0 0) .nilIface)) (m : List UInt8) (hm : m.length ≤ 5000) (ad : Addr) (k cp : Nat) (hk : k = m.length) (hc : ∀ j (b : UInt8), m[j]? = some b → w.cell? (ad.add j) = some (.int .u8 (b.toNat : Int))) :
    Calls Ybad.prog 66 #[.pointer (some ⟨bz, 0, none⟩), .slice (some ad) k cp] w fun e w' => e = .returned (.tuple #[.int .i64 k, .nilIface]) ∧
      ∃ a n c w1, w' = w1.setCell ⟨bz, 0, none⟩ (.slice a n c) ∧ Below w.heap.size w w1 ∧ Owns w.heap.size (.slice a n c) m w' := by
  have z0 : w.cell? ⟨bz, 0, none⟩ = some (.slice none 0 0) := hz.cell (by omega)
  have z1 : w.cell? ⟨bz, 1, none⟩ = some .nilIface := hz.cell (by omega)
  have zf := hz.frozen 0
  have hlt := hz.lt
  obtain ⟨V, hV, hVn⟩ : ∃ V : Value, w.cell? ⟨bz, 0, none⟩ = some V ∧ V = .slice none 0 0 := ⟨_, z0, rfl⟩
  have HO : Hid (Owns w.heap.size V [] w) := by rw [hVn]; exact Owns.nil _ _
  have HC := (show Hid _ from hc)
  have HK : Hid (k = m.length) := hk
  clear z0 hc hz hVn hk
  go_enter Ybad.func66, Ybad.ntmps66
  go_wp2_with (at_builtin; refine wp_row w rfl _ _ rfl m HO.out rfl (Nat.le_refl _) (by simp; omega) ad cp k HK.out rfl HC.out ?_)
  intro a1 n1 c1 w1 o1 b1
  have k0 := (b1.cell (p := ⟨bz, 0, none⟩) hlt).trans hV
  have k1 := (b1.frozen (p := ⟨bz, 0, none⟩) hlt).trans zf
  have O2 : Hid (Owns w.heap.size (.slice a1 n1 c1) m (w1.setCell ⟨bz, 0, none⟩ (.slice a1 n1 c1))) := by
    exact ownsRow_setCell_below o1 hlt _
  have B1 := (show Hid _ from b1)
  clear o1 b1
  go_wp2
  go_ret2
  exact ⟨rfl, _, _, _, w1, rfl, B1.out, O2.out⟩

attribute [local go_sem ↓] hideSlc

/-- The bytes that the buffer holds. -/
theorem Bf.bytes {c : List UInt8} {w : World} (h : Bf bw bb bz c w) (j : Nat) (b : UInt8) (hj : c[j]? = some b) : w.cell? ((⟨bb, 0, none⟩ : Addr).add j) = some (.int .u8 (b.toNat : Int)) := by
  obtain ⟨cur, h1, h2, h3⟩ := h.bf
  have e : (⟨bb, 0, none⟩ : Addr).add j = ⟨bb, j, none⟩ := by unfold Addr.add; split <;> simp_all
  have hjl : j < c.length := (List.getElem?_eq_some_iff.1 hj).1
  have hc : (Lib.byteCells c)[j]? = some (.int .u8 (b.toNat : Int)) := by simp [Lib.byteCells, hj]
  rw [← h3, List.getElem?_take_of_lt hjl] at hc
  rw [e, World.cell?, h1]
  simpa using hc

theorem held_at {w w1 w2 : World} {v x : Value} {i : Nat} (hn : bz ≠ bw) (hlt : bw < w.heap.size) (hw : w2 = w1.setCell ⟨bz, 0, none⟩ v) (hb : Below w.heap.size w.drew w1) (h : w.cell? ⟨bw, i, none⟩ = some x) : w2.cell? ⟨bw, i, none⟩ = some x := by
  rw [hw, World.cell?_setCell_far _ _ _ _ (by simpa using hn), hb.cell (p := ⟨bw, i, none⟩) hlt]
  exact h

theorem frozen_at {w w1 w2 : World} {v : Value} {i : Nat} (hn : bz ≠ bw) (hlt : bw < w.heap.size) (hw : w2 = w1.setCell ⟨bz, 0, none⟩ v) (hb : Below w.heap.size w.drew w1) (h : w.frozen? ⟨bw, i, none⟩ = false) : w2.frozen? ⟨bw, i, none⟩ = false := by
  rw [World.frozen?_of_block (w := w) (by rw [hw, Below.heap_setCell _ _ _ _ (by simpa using hn.symm)]; exact hb.block bw hlt)]; exact h

set_option maxRecDepth 100000 in
theorem flush_ok (bw bb bz : Nat) (c : List UInt8) (w : World) (h : Bf bw bb bz c w) (hc : 0 < c.length) (hc' : c.length ≤ 4096) (hz : w.rowIs bz 27 2 (zzc (.slice none 0 0) .nilIface)) (hn : bz ≠ bw) :
    Calls Ybad.prog 18 #[.pointer (some ⟨bw, 0, none⟩)] w fun e w' => e = .returned .nilIface ∧
      ∃ a n c' w1, w' = (w1.setCell ⟨bz, 0, none⟩ (.slice a n c')).setCell ⟨bw, 2, none⟩ (.int .i64 0) ∧ Below w.heap.size w w1 ∧ Owns w.heap.size (.slice a n c') c w' := by
  have c0 := h.c0
  have c1 := h.c1
  have c2 := h.c2
  have c3 := h.c3
  have f2 := h.wr.frozen 2
  have hbwl := h.wr.lt
  have HH : Hid (Bf bw bb bz c w) := h
  have HZ : Hid (w.rowIs bz 27 2 (zzc (.slice none 0 0) .nilIface)) := hz
  obtain ⟨N, hN⟩ : ∃ N, N = c.length := ⟨_, rfl⟩
  rw [← hN] at c2
  have HN : Hid (N = c.length) := hN
  have hNp : 0 < N := by omega
  have hN4 : N ≤ 4096 := by omega
  have hsl := slc_to bb N 4096 hN4
  clear h hz hN
  have hme := meth66 (some ⟨bz, 0, none⟩)
  go_enter Ybad.func18, Ybad.ntmps18
  go_wp2_with fail
  go_region_held3 (fun w' => w'.cell? ⟨bw, 1, none⟩ = some (.slice (some ⟨bb, 0, none⟩) 4096 4096) ∧ w'.cell? ⟨bw, 2, none⟩ = some (.int .i64 N) ∧ w'.cell? ⟨bw, 3, none⟩ = some (.iface 22 (.pointer (some ⟨bz, 0, none⟩))))
    (first | exact ⟨c1, c2, c3⟩ | exact ⟨e1, e2, e3⟩)
    (first | (go_at_call 66; refine (zzw_ok bz _ ?_ c (Nat.le_trans hc' (by omega)) ⟨bb, 0, none⟩ N 4096 HN.out ?_).mono ?_; (· exact HZ.out); (· exact HH.out.bytes); (rintro e w2 ⟨rfl, a1, n1, d1, w1, hw2, b1, o1⟩; have e1 := held_at hn hbwl hw2 b1 c1; have e2 := held_at hn hbwl hw2 b1 c2; have e3 := held_at hn hbwl hw2 b1 c3; have g2 := frozen_at hn hbwl hw2 b1 f2; have HW2 := (show Hid _ from hw2); clear hw2)))
  have O2 : Hid (Owns w.heap.size (.slice a1 n1 d1) c (w2.setCell ⟨bw, 2, none⟩ (.int .i64 0))) := ownsRow_setCell_below o1 hbwl _
  have B1 : Hid (Below w.heap.size w w1) := ⟨b1.os, b1.tape, b1.output, b1.size, b1.block⟩
  have hnn : ¬ (N : Int) < (N : Int) := by omega
  clear c0 c1 c2 c3 f2 b1 o1
  go_wp2_with fail
  go_ret
  exact ⟨rfl, a1, n1, d1, w1, by rw [← HW2.out], B1.out, O2.out⟩
end Go.Proofs.YbulkbldsDoor
