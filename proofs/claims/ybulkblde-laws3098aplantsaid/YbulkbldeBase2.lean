/-
  SMALL LAWS, MORE: 'append' of one element onto a row of the call's own that has room; worlds that have grown.
-/
import Derived.Test.YbulkbldeBase
namespace Go.Proofs.Ybulkblde
open Go.RowKit

/-- 'append(xs, x)' where xs is a row of the call's own with room left. -/
theorem wpList_append_row1 {P : Program} {w : World} {ops : Array Oper} {rest : List Oper} {o : Oper} {a : Act} {Q : Exit → Act → World → Prop}
    (hgd : o.guard = none) (s x : Operand) (t : TypeId) (hop : o.op = Op.call { callee := Callee.builtin Builtin.append, args := #[s, x], argTypes := #[t, t] })
    (e : TypeId) (hu : P.underlying t = some (.slice e)) (hsz : (P.info? e).map (·.size) = some 1)
    (g k cap : Nat) (f : Nat → Value) (hs : a.eval s = .slice (some ⟨g, 0, none⟩) k cap) (hrow : w.rowIs g e cap f) (ad : Addr) (c : Nat) (hx : a.eval x = .slice (some ad) 1 c)
    (v : Value) (hv : w.cell? ad = some v) (h1 : v.oneCell' = true) (hk : k < cap)
    (h : ∀ w', w'.rowIs g e cap (fun j => if j = k then v else f j) → w.grownBy w' (some g) → Hid (w'.heap.size = w.heap.size) → wpList P ops Q rest (a.put o.dst (.slice (some ⟨g, 0, none⟩) (k + 1) cap)) w') :
    wpList P ops Q (o :: rest) a w := by
  refine wpList_plain hgd fun K hK => ?_
  obtain ⟨i, hi, hz⟩ := Option.map_eq_some_iff.1 hsz
  have hl := rowIs_list hrow
  have hrun := run_append_room (P := P) w t o.type e i hu hi g k cap _ hl ad 1 c [v] (by simp [hz]) (by
    intro j u hj
    match j, hj with
    | 0, hj =>
      simp at hj
      subst hj
      have e0 : ad.add 0 = ad := by unfold Addr.add; simp
      rw [e0]
      exact hv) (by intro u hu'; simp at hu'; subst hu'; exact h1) (by omega) (by simp [hz]; omega)
  unfold Oper.wp
  simp only [execOp, hop, resolve, invoke, builtin]
  simp only [hz, Nat.mul_one, List.length_singleton] at hrun
  simp [hs, hx, hrun, Result.andThen]
  refine hK _ _ (h _ ?_ ?_ ?_)
  · apply rowIs_of_list
    have e2 := setRow_heap w g _ ((((List.range cap).map f).take k ++ v :: ((List.range cap).map f).drop (k + 1)).toArray) e _ hl
    rw [e2]
    congr 2
    apply Array.ext_getElem?
    intro j
    simp only [List.getElem?_toArray, List.getElem?_append, List.length_take, List.length_map, List.length_range, List.getElem?_map]
    rw [Nat.min_eq_left (by omega)]
    by_cases e1 : j < k
    · rw [if_pos e1, List.getElem?_take_of_lt e1]
      simp [show j < cap by omega, show ¬ j = k by omega]
    · rw [if_neg e1]
      by_cases e2 : j = k
      · subst e2; simp [hk]
      · rw [show j - k = (j - k - 1) + 1 by omega, List.getElem?_cons_succ, List.getElem?_drop, show k + 1 + (j - k - 1) = j by omega]
        by_cases e3 : j < cap
        · simp [e3, e2]
        · simp [e3]
  · exact ⟨rfl, rfl, rfl, by simp [World.setRow], fun b _ hne => setRow_other w g b _ (fun e => hne (by rw [e]))⟩
  · show _ = _
    simp [World.setRow]

theorem grownBy_trans {a b c : World} {row : Option Nat} (h : a.grownBy b row) (k : b.grownBy c row) : a.grownBy c row :=
  ⟨k.os.trans h.os, k.tape.trans h.tape, k.output.trans h.output, Nat.le_trans h.size k.size, fun i hi hne => (k.block i (Nat.lt_of_lt_of_le hi h.size) hne).trans (h.block i hi hne)⟩

end Go.Proofs.Ybulkblde
