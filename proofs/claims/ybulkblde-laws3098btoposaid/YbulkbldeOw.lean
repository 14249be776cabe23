/-
  The order walk as it is laid new.
-/
import Derived.Test.YbulkbldeNewSet
namespace Go.Proofs.Ybulkblde
open Go.RowKit

theorem rowIs_at {w : World} {b : Nat} {z : Value} {n : Nat} {t : TypeId} (h : b = w.heap.size) : (w.alloc (.cells (madeCells #[z] n) t)).rowIs b t n (fun _ => z) := by
  subst h; exact World.rowIs_made w z n t
theorem rowIs_but {w w' : World} {b : Nat} {t : TypeId} {n : Nat} {f : Nat → Value} (hb : But [] w w') (h : w.rowIs b t n f) : w'.rowIs b t n f := h.of_block (hb.block b h.lt (by simp))
theorem But.drew {S : List Nat} {a b : World} (h : But S a b) : But S a b.drew := h.drewN 1

def owCells (bo n bt bc bh br : Nat) : Array Value := #[.slice (some ⟨bo, 0, none⟩) n n, .nilIface, .slice (some ⟨bc, 0, none⟩) n n, .slice (some ⟨bh, 0, none⟩) n n, .slice (some ⟨bt, 0, none⟩) (n + 1) (n + 1), .int .i64 (stp (Lib.bitLen n)), .slice (some ⟨br, 0, none⟩) 0 n]

theorem fen_zero (n : Nat) : Fen n (fun _ => false) (fun _ => 0) := by
  intro j _ _
  have := (num_zero (fun _ => false) (j - lb j) (lb j)).2 (fun _ _ _ => rfl)
  show (0 : Int) = _
  omega

theorem ow_new {wx : World} {bo n A bw bt bc bh br : Nat} (h : wx.heap[bw]? = some (.cells (owCells bo n bt bc bh br) 91 (0, 0)))
    (rt : wx.rowIs bt 3 (n + 1) (fun _ => .int .i64 0)) (rc : wx.rowIs bc 3 n (fun _ => .int .i64 0)) (rh : wx.rowIs bh 4 n (fun _ => .bool false)) (rr : wx.rowIs br 3 n (fun _ => .int .i64 0))
    (l : A ≤ bw ∧ A ≤ bt ∧ A ≤ bc ∧ A ≤ bh ∧ A ≤ br)
    (d : bw ≠ bt ∧ bw ≠ bc ∧ bw ≠ bh ∧ bw ≠ br ∧ bt ≠ bc ∧ bt ≠ bh ∧ bt ≠ br ∧ bc ≠ bh ∧ bc ≠ br ∧ bh ≠ br) : OW wx bo n A bw bt bc bh br (fun _ => false) (fun _ => 0) [] := by
  have hc := cell_whole h
  obtain ⟨l1, l2, l3, l4, l5⟩ := l
  obtain ⟨d1, d2, d3, d4, d5, d6, d7, d8, d9, d10⟩ := d
  exact { c0 := by rw [hc]; rfl, c1 := by rw [hc]; rfl, c2 := by rw [hc]; rfl, c3 := by rw [hc]; rfl, c4 := by rw [hc]; rfl, c5 := by rw [hc]; rfl, c6 := by rw [hc]; rfl, fz := frozen_whole h,
          rt := ⟨fun _ => 0, rt, fen_zero n⟩, rc := rc, rh := rh, rr := ⟨_, rr, fun i h => absurd h (by simp)⟩, lw := l1, lt := l2, lc := l3, lh := l4, lr := l5, d1 := d1, d2 := d2, d3 := d3, d4 := d4, d5 := d5, d6 := d6, d7 := d7, d8 := d8, d9 := d9, d10 := d10 }

theorem heap_new {w : World} {b : Nat} {o : Obj} (h : b = w.heap.size) : (w.alloc o).heap[b]? = some o := by
  subst h
  show (w.heap.push o)[w.heap.size]? = some o
  simp

theorem info4 : (Yba.prog.info? 4).map (fun i => (i.zero, i.size, i.bytes)) = some (some (.bool false), 1, 1) := by kernel_rfl

theorem run_make_room (n : Nat) (hn : n ≤ 255) (w : World) :
    (Instr.makeSlice 34 (.int .i64 0) (.int .i64 (n : Int))).run Yba.prog w = .ok (.slice (some ⟨w.heap.size, 0, none⟩) 0 n) (w.alloc (.cells (madeCells #[.int .i64 0] n) 3)) := by
  obtain ⟨i, hi, hzz⟩ := Option.map_eq_some_iff.1 info3
  simp only [Prod.mk.injEq] at hzz
  obtain ⟨hz, hs, hb⟩ := hzz
  have hr := run_make (P := Yba.prog) w 34 3 i (.int .i64 0) Yba.underlying34 hi hz .i64 .i64 0 n (by omega) (by omega) (by rw [hb]; omega) (by omega)
  simp only [Int.toNat_natCast, hs, Nat.mul_one] at hr
  exact hr

end Go.Proofs.Ybulkblde
