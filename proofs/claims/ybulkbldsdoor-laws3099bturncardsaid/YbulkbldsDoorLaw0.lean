import Derived.Test.YbulkbldsDoorLaw10
namespace Go.Proofs.YbulkbldsDoor
open Go.RowKit

theorem w64 (h : Nat) (hh : h ≤ 52) : wrap64 (h : Int) = (h : Int) := by
  have h2 : ∀ x : Fin 53, wrap64 (x.1 : Int) = (x.1 : Int) := by decide +kernel
  exact h2 ⟨h, by omega⟩

theorem nums (x0 x1 x2 x3 x4 : Nat) : ∃ n pl lo hi h : Nat, wrap64 ((x2 : Int) % 14 + (x4 : Int) % (53 - (x2 : Int) % 14)) = (h : Int) ∧ (x1 : Int) % (1 + (x0 : Int) % 8) = (pl : Int) ∧ 1 + (x0 : Int) % 8 = (n : Int) ∧ (x2 : Int) % 14 + (x3 : Int) % 14 = (hi : Int) ∧ (x2 : Int) % 14 = (lo : Int) ∧
    n ≤ 8 ∧ pl < n ∧ lo ≤ 13 ∧ hi ≤ 26 ∧ h ≤ 52 ∧ lo ≤ hi ∧ lo ≤ h := by
  obtain ⟨lo, hlo⟩ : ∃ n, n = x2 % 14 := ⟨_, rfl⟩
  have l1 : lo ≤ 13 := by omega
  have e4 : (x2 : Int) % 14 = (lo : Int) := by omega
  have hh0 : x4 % (53 - lo) < 53 - lo := Nat.mod_lt _ (by omega)
  have eh : (x4 : Int) % (53 - (lo : Int)) = ((x4 % (53 - lo) : Nat) : Int) := by
    rw [Int.natCast_emod, Int.natCast_sub (by omega)]; rfl
  have hp0 : x1 % (1 + x0 % 8) < 1 + x0 % 8 := Nat.mod_lt _ (by omega)
  refine ⟨1 + x0 % 8, x1 % (1 + x0 % 8), lo, lo + x3 % 14, lo + x4 % (53 - lo), ?_, ?_, by omega, by omega, e4, by omega, hp0, l1, by omega, ?_, by omega, by omega⟩
  · rw [e4, eh, ← Int.natCast_add, w64]
    omega
  · rw [Int.natCast_emod]; rfl
  · omega

set_option maxRecDepth 1000000 in
set_option maxHeartbeats 20000000 in
theorem turn_any (x0 x1 x2 x3 x4 k : Nat) (an : Bool) (dn tn : Int) (h0 : x0 ≤ 255) (h1 : x1 ≤ 255) (h2 : x2 ≤ 255) (h3 : x3 ≤ 255) (h4 : x4 ≤ 255) (hk : k ≤ 255) (W : World) :
    Calls Ybad.prog 6 #[.int .u8 (x0 : Int), .int .u8 (x1 : Int), .int .u8 (x2 : Int), .int .u8 (x3 : Int), .int .u8 (x4 : Int), .bool an, .int .u8 (k : Int), .int .i64 dn, .int .i64 tn] W fun e w' => e = .returned (.bool true) ∧ Below W.heap.size W w' := by
  go_enter Ybad.func6, Ybad.ntmps6
  go_upto_region 7 with fail
  obtain ⟨n, pl, lo, hi, h, e3, e1, e0, e2, e4, a1, a2, a3, a4, a5, a6, a7⟩ := nums x0 x1 x2 x3 x4
  rw [e3, e1, e0, e2, e4]
  clear e3 e1 e0 e2 e4
  by_cases hlt : h < hi
  · have hlt' : (h : Int) < (hi : Int) := by omega
    go_upto_region 10 with fail
    go_cut [26] from 100 to 101 (fun s26 wx => s26 = .int .i64 (lo : Int) ∧ wx = W)
    case first =>
      go_wp2_with fail
      go_meet
      case rel => exact ⟨rfl, rfl⟩
    case rest =>
      obtain ⟨rfl, rfl⟩ := hcut
      refine ‹∀ (a : Act) (w : World), Code.wp Ybad.prog _ _ a w → _› _ _ ?_
      exact law10 (Below.refl _ _) (Nat.le_refl _) a1 a2 hk a3 a4 a5 a6 a7 (by omega)
  · have hlt' : ¬ (h : Int) < (hi : Int) := by omega
    go_upto_region 10 with fail
    go_cut [26] from 100 to 101 (fun s26 wx => s26 = .int .i64 (lo : Int) ∧ wx = W)
    case first =>
      go_wp2_with fail
      go_meet
      case rel => exact ⟨rfl, rfl⟩
    case rest =>
      obtain ⟨rfl, rfl⟩ := hcut
      refine ‹∀ (a : Act) (w : World), Code.wp Ybad.prog _ _ a w → _› _ _ ?_
      exact law10 (Below.refl _ _) (Nat.le_refl _) a1 a2 hk a3 a4 a5 a6 a7 (by omega)
end Go.Proofs.YbulkbldsDoor
