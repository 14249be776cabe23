/-
  newNodeSet, NewOrderWalk.
-/
import Derived.Test.YbulkbldeWalk
import Derived.Test.YbulkbldeSerial
namespace Go.Proofs.Ybulkblde
open Go.RowKit

theorem heap3 (h : Array Obj) (X Y Z : Obj) : (((h.push X).push Y).push Z)[h.size]? = some X ∧ (((h.push X).push Y).push Z)[h.size + 1]? = some Y := by
  refine ⟨?_, ?_⟩
  · rw [Array.getElem?_push, if_neg (by simp <;> omega), Array.getElem?_push, if_neg (by simp), Array.getElem?_push, if_pos rfl]
  · rw [Array.getElem?_push, if_neg (by simp), Array.getElem?_push, if_pos (by simp)]

theorem u88 : ∃ d, Yba.prog.underlying 88 = some d ∧ (match d with | .struct _ | .array _ _ => true | _ => false) = true := ⟨_, Yba.underlying88, rfl⟩
theorem z88 : (Yba.prog.info? 88).map (·.size) = some 2 := by kernel_rfl

theorem stp_shift : ∀ n : Nat, 1 ≤ n → n ≤ 255 → 1 ≤ Lib.bitLen n ∧ Op.shift .shl .i64 1 .i64 ((Lib.bitLen n : Int) - 1) = pure (.int .i64 (stp (Lib.bitLen n) : Int)) := by
  intro n h1 h2
  have : ∀ m : Nat, m < 256 → 1 ≤ m → 1 ≤ Lib.bitLen m ∧ Lib.bitLen m ≤ 8 := by decide +kernel
  obtain ⟨a, b⟩ := this n (by omega) h1
  refine ⟨a, ?_⟩
  rw [shift_shl .i64 .i64 1 _ (by omega) (by show _ ≤ (64 : Int); omega)]
  congr 2
  obtain ⟨k, hk⟩ : ∃ k, Lib.bitLen n = k + 1 := ⟨Lib.bitLen n - 1, by omega⟩
  rw [hk]
  have : ∀ k : Nat, k < 8 → IntKind.i64.wrap (1 * 2 ^ (((k + 1 : Nat) : Int) - 1).toNat) = (stp (k + 1) : Int) := by decide +kernel
  exact this k (by omega)

theorem stp_wrap : ∀ n : Nat, 1 ≤ n → n ≤ 255 → wrap64 (2 ^ (Lib.bitLen n - 1)) = (stp (Lib.bitLen n) : Int) := by
  intro n h1 h2
  have : ∀ m : Nat, m < 256 → 1 ≤ m → wrap64 (2 ^ (Lib.bitLen m - 1)) = (stp (Lib.bitLen m) : Int) := by decide +kernel
  exact this n (by omega) h1

set_option maxRecDepth 100000 in
set_option maxHeartbeats 1000000 in
theorem newNodeSet_any (n : Nat) (w : World) (hn : n ≤ 255) :
    Calls Yba.prog 29 #[.int .i64 n] w fun e w' => ∃ bt, e = .returned (nsv bt n (stp (Lib.bitLen n))) ∧ w.heap.size ≤ bt ∧ w'.rowIs bt 3 (n + 1) (fun _ => .int .i64 0) ∧ But [] w w' := by
  have hmk := run_make_row' (P := Yba.prog) 34 3 (.int .i64 0) 8 Yba.underlying34 info3 rfl .i64 .i64 (n + 1) (by omega) (by omega)
  simp only [Int.natCast_add, Int.cast_ofNat_Int] at hmk
  unfold nsv
  by_cases h0 : n = 0
  · have hs : stp (Lib.bitLen n) = 0 := by subst h0; rfl
    have hni : ¬ (0 : Int) < n := by omega
    rw [hs]
    clear h0 hs
    go_enter Yba.func29, Yba.ntmps29
    go_wp2_with fail
    refine bodyPost_ret (results_cell_row (P := Yba.prog) rfl _ _ w.heap.size 88 _ (0, 0) _ rfl (heap3 w.heap _ _ _).1 Yba.underlying88 rfl z88) rfl ?_
    exact ⟨w.heap.size + 1, rfl, by omega, rowIs_madeAt (heap3 w.heap _ _ _).2, (((But.refl _ _).alloc _).alloc _).alloc _⟩
  · obtain ⟨s1, s2⟩ := stp_shift n (by omega) hn
    have b2 := (bitLen_facts n hn).2
    have hw := stp_wrap n (by omega) hn
    have hl := len_any n
    have hni : (0 : Int) < n := by omega
    go_enter Yba.func29, Yba.ntmps29
    go_wp2_with fail
    refine (len_any n _ hn).mono ?_
    rintro e w' ⟨rfl, rfl⟩
    go_wp2_with fail
    refine bodyPost_ret (results_cell_row (P := Yba.prog) rfl _ _ w.heap.size 88 _ (0, 0) _ rfl (heap3 w.heap _ _ _).1 Yba.underlying88 rfl z88) rfl ?_
    exact ⟨w.heap.size + 1, rfl, by omega, rowIs_madeAt (heap3 w.heap _ _ _).2, (((But.refl _ _).alloc _).alloc _).alloc _⟩
end Go.Proofs.Ybulkblde
