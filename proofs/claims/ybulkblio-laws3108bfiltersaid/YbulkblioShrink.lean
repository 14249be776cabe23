/-
  'shrinkCap' at requests.
-/
import Derived.Test.YbulkblioReuse
namespace Go.Proofs.Ybulkblio
open Go.RowKit

structure Shrunk (k : Nat) (f : Nat → Value) (w : World) (e : Ending) (w' : World) : Prop where
  but : But [] w w'
  ret : ∃ b' cap', e = .returned (.slice (some ⟨b', 0, none⟩) k cap') ∧ k ≤ cap' ∧ cap' ≤ 10000 ∧ ∀ j, j < k → w'.cell? ⟨b', j, none⟩ = some (f j)

theorem run_make_req (M : Nat) (hM : M ≤ 10000) (w : World) :
    (Instr.makeSlice 33 (.int .i64 0) (.int .i64 (M : Int))).run Yba.prog w = .ok (.slice (some ⟨w.heap.size, 0, none⟩) 0 M) (w.alloc (.cells (madeCells #[.pointer none] M) 41)) := by
  obtain ⟨i, hi, hzz⟩ := Option.map_eq_some_iff.1 info41
  simp only [Prod.mk.injEq] at hzz
  obtain ⟨hz, hs, hb⟩ := hzz
  have hr := run_make (P := Yba.prog) w 33 41 i (.pointer none) Yba.underlying33 hi hz .i64 .i64 0 M (by omega) (by omega) (by rw [hb]; omega) (by omega)
  simp only [Int.toNat_natCast, hs, Nat.mul_one] at hr
  exact hr

/-- 'append(make(.., 0, M), s...)' where there is room. -/
theorem wp_all {ops : Array Oper} {rest : List Oper} {o : Oper} {a : Act} {Q : Exit → Act → World → Prop} (w : World) (hgd : o.guard = none) (s x : Operand)
    (ho : o.op = Op.call { callee := Callee.builtin Builtin.append, args := #[s, x], argTypes := #[33, 33] }) (k cap M : Nat) (f : Nat → Value) (bl : Nat) (row : w.rowIs bl 41 cap f) (hk : k ≤ cap) (hM : k ≤ M)
    (h1 : ∀ j, j < k → (f j).oneCell' = true) (hs : a.eval s = .slice (some ⟨w.heap.size, 0, none⟩) 0 M) (hx : a.eval x = .slice (some ⟨bl, 0, none⟩) k cap)
    (h : ∀ w', But [] w w' → (∀ j, j < k → w'.cell? ⟨w.heap.size, j, none⟩ = some (f j)) → wpList Yba.prog ops Q rest (a.put o.dst (.slice (some ⟨w.heap.size, 0, none⟩) k M)) w') :
    wpList Yba.prog ops Q (o :: rest) a (w.alloc (.cells (madeCells #[.pointer none] M) 41)) := by
  obtain ⟨i, hi, hzz⟩ := Option.map_eq_some_iff.1 info41
  simp only [Prod.mk.injEq] at hzz
  obtain ⟨hz0, hz1, hz2⟩ := hzz
  have hg := rowIs_list (World.rowIs_made w (.pointer none) M 41)
  have hr := run_append_room (P := Yba.prog) (w.alloc (.cells (madeCells #[.pointer none] M) 41)) 33 o.type 41 i Yba.underlying33 hi w.heap.size 0 M _ hg ⟨bl, 0, none⟩ k cap ((List.range k).map f) (by rw [hz1]; simp)
    (by intro j u hj
        by_cases hjk : j < k
        · have hc := (row.alloc (.cells (madeCells #[.pointer none] M) 41)).cell (i := j) (by omega)
          simp [hjk] at hj
          subst hj
          rw [Lib.add_plain, Nat.zero_add]
          exact hc
        · simp [hjk] at hj)
    (by intro u hu
        simp only [List.mem_map, List.mem_range] at hu
        obtain ⟨j, hj, rfl⟩ := hu
        exact h1 j hj) (by omega) (by rw [hz1]; simp; omega)
  refine wpList_plain hgd fun K hK => ?_
  unfold Oper.wp execOp
  simp only [ho, resolve, invoke, builtin, Sem.run_bind, Sem.run_pure, Result.andThen_ok, List.map_toArray, List.map_cons, List.map_nil, hs, hx, hr, Nat.zero_add]
  refine hK _ _ (h _ ?_ ?_)
  · refine ⟨rfl, rfl, rfl, by simp [World.setRow], fun j hj _ => ?_⟩
    rw [setRow_other _ w.heap.size j _ (by omega)]
    exact Below.heap_alloc _ _ _ hj
  · intro j hj
    rw [cell_whole (setRow_heap _ w.heap.size _ _ 41 _ hg)]
    simp
    rw [List.getElem?_append_left (by simp; omega)]
    simp [hj]

set_option maxRecDepth 100000 in
set_option maxHeartbeats 1000000 in
theorem shrink_any (bl k cap : Nat) (f : Nat → Value) (w : World) (row : w.rowIs bl 41 cap f) (hk : k ≤ cap) (hcap : cap ≤ 1024) (h1 : ∀ j, j < k → (f j).oneCell' = true) :
    Calls Yba.prog 16 #[.slice (some ⟨bl, 0, none⟩) k cap, .int .i64 64] w fun e w' => Shrunk k f w e w' := by
  have hsame : Shrunk k f w (.returned (.slice (some ⟨bl, 0, none⟩) k cap)) w := ⟨But.refl _ _, bl, cap, rfl, hk, by omega, fun j hj => row.cell (by omega)⟩
  have HS := (show Hid _ from hsame)
  clear hsame
  by_cases h64 : cap ≤ 64
  · have hi : (cap : Int) ≤ 64 := by omega
    have hd : decide ((cap : Int) ≤ 64) = true := decide_eq_true hi
    go_enter Yba.func16, Yba.ntmps16
    go_wp2_with fail
    go_ret
    exact HS.out
  · have hi : ¬ (cap : Int) ≤ 64 := by omega
    have hd : decide ((cap : Int) ≤ 64) = false := decide_eq_false hi
    by_cases h4 : cap / 4 ≤ k
    · have hd4 : decide ((cap : Int) / 4 ≤ (k : Int)) = true := decide_eq_true (by omega)
      have h4i : (cap : Int) / 4 ≤ (k : Int) := by omega
      go_enter Yba.func16, Yba.ntmps16
      go_wp2_with fail
      go_ret
      exact HS.out
    · have h4i : ¬ (cap : Int) / 4 ≤ (k : Int) := by omega
      have hd4 : decide ((cap : Int) / 4 ≤ (k : Int)) = false := decide_eq_false h4i
      by_cases h2 : 2 * k ≤ 64
      · have h2i : 2 * (k : Int) ≤ 64 := by omega
        have hmk := run_make_req 64 (by omega)
        simp only [Int.cast_ofNat_Int] at hmk
        go_enter Yba.func16, Yba.ntmps16
        go_wp2_with (at_builtin; refine wp_all w rfl _ _ rfl k cap 64 f bl row hk (by omega) h1 rfl rfl ?_; intro w' hb hc; have HC := (show Hid _ from hc); clear hc)
        go_ret
        exact ⟨hb, _, _, rfl, by omega, by omega, HC.out⟩
      · have h2i : ¬ 2 * (k : Int) ≤ 64 := by omega
        have hmk := run_make_req (2 * k) (by omega)
        simp only [Int.natCast_mul, Int.cast_ofNat_Int] at hmk
        go_enter Yba.func16, Yba.ntmps16
        go_wp2_with (at_builtin; refine wp_all w rfl _ _ rfl k cap (2 * k) f bl row hk (by omega) h1 rfl rfl ?_; intro w' hb hc; have HC := (show Hid _ from hc); clear hc)
        go_ret
        exact ⟨hb, _, _, rfl, by omega, by omega, HC.out⟩
end Go.Proofs.Ybulkblio
