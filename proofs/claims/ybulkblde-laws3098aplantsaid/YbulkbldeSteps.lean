/-
  The steps as three cells each; small laws on cells.
-/
import Derived.Test.YbulkbldeAround
namespace Go.Proofs.Ybulkblde
open Go.RowKit

theorem keepA {w : World} {a : Addr} {v : Value} (o : Obj) (h : w.cell? a = some v) : (w.alloc o).cell? a = some v := by
  rw [World.cell?_alloc_some _ _ _ (by rw [h]; rfl), h]
theorem keepS {w : World} {a : Addr} {v : Value} (p : Addr) (u : Value) (h : w.cell? a = some v) (hne : p.block ≠ a.block) : (w.setCell p u).cell? a = some v := by
  rw [World.cell?_setCell_far _ _ _ _ hne, h]
theorem keepD {w : World} {a : Addr} {v : Value} (h : w.cell? a = some v) : w.drew.cell? a = some v := h
theorem keepDN {w : World} {a : Addr} {v : Value} (q : Nat) (h : w.cell? a = some v) : (w.drewN q).cell? a = some v := h
theorem keepN (w : World) (v : Value) (t : TypeId) : (w.alloc (.cells #[v] t)).cell? ⟨w.heap.size, 0, none⟩ = some v := by
  rw [cell_whole (Go.Deep.blk_alloc_new _ _)]; rfl
theorem keepM {w : World} {b : Nat} (v : Value) (t : TypeId) (hb : b = w.heap.size) : (w.alloc (.cells #[v] t)).cell? ⟨b, 0, none⟩ = some v := by
  subst hb; exact keepN _ _ _

/-- A step: action, transaction, item. -/
structure St where
  act : Nat
  txn : Nat
  it : Nat

/-- The items as strings differ as their numbers do. -/
theorem itm_eq (a b : Nat) (ha : a < 26) (hb : b < 26) : ((itm a).toList == (itm b).toList) = decide (a = b) := by
  have h : ∀ x : Fin 26, ∀ y : Fin 26, ((itm x.1).toList == (itm y.1).toList) = decide (x.1 = y.1) := by decide +kernel
  exact h ⟨a, ha⟩ ⟨b, hb⟩

/-- The steps' cells, three a step. -/
def stc (s : Nat → St) (i : Nat) : Value :=
  if i % 3 = 0 then .int .u8 (s (i / 3)).act else if i % 3 = 1 then .int .i64 (s (i / 3)).txn else .string (itm (s (i / 3)).it)

theorem stc0 (s : Nat → St) (i : Nat) : stc s (i * 3) = .int .u8 (s i).act := by
  unfold stc; rw [show i * 3 % 3 = 0 by omega, show i * 3 / 3 = i by omega]; rfl
theorem stc1 (s : Nat → St) (i : Nat) : stc s (i * 3 + 1) = .int .i64 (s i).txn := by
  unfold stc; rw [show (i * 3 + 1) % 3 = 1 by omega, show (i * 3 + 1) / 3 = i by omega]; rfl
theorem stc2 (s : Nat → St) (i : Nat) : stc s (i * 3 + 2) = .string (itm (s i).it) := by
  unfold stc; rw [show (i * 3 + 2) % 3 = 2 by omega, show (i * 3 + 2) / 3 = i by omega]; rfl

/-- One step laid anew. -/
def upd (s : Nat → St) (id : Nat) (v : St) : Nat → St := fun i => if i = id then v else s i

theorem stc_upd {w : World} {b n : Nat} {s : Nat → St} (h : w.rowIs b 32 n (stc s)) (id : Nat) (v : St) :
    (((w.setCell ⟨b, id * 3, none⟩ (.int .u8 v.act)).setCell ⟨b, id * 3 + 1, none⟩ (.int .i64 v.txn)).setCell ⟨b, id * 3 + 2, none⟩ (.string (itm v.it))).rowIs b 32 n (stc (upd s id v)) := by
  refine (((h.set _ _).set _ _).set _ _).congr ?_
  intro i _
  by_cases e2 : i = id * 3 + 2
  · subst e2; rw [if_pos rfl, stc2]; simp [upd]
  · rw [if_neg e2]
    by_cases e1 : i = id * 3 + 1
    · subst e1; rw [if_pos rfl, stc1]; simp [upd]
    · rw [if_neg e1]
      by_cases e0 : i = id * 3
      · subst e0; rw [if_pos rfl, stc0]; simp [upd]
      · rw [if_neg e0]
        unfold stc upd
        rw [if_neg (show ¬ i / 3 = id by omega)]

theorem heap4' (h : Array Obj) (X Y Z V : Obj) : ((((h.push X).push Y).push Z).push V)[h.size]? = some X ∧ ((((h.push X).push Y).push Z).push V)[h.size + 1]? = some Y ∧
    ((((h.push X).push Y).push Z).push V)[h.size + 2]? = some Z ∧ ((((h.push X).push Y).push Z).push V)[h.size + 3]? = some V := by
  refine ⟨?_, ?_, ?_, ?_⟩
  · rw [Array.getElem?_push, if_neg (by simp <;> omega), Array.getElem?_push, if_neg (by simp <;> omega), Array.getElem?_push, if_neg (by simp), Array.getElem?_push, if_pos rfl]
  · rw [Array.getElem?_push, if_neg (by simp <;> omega), Array.getElem?_push, if_neg (by simp), Array.getElem?_push, if_pos (by simp)]
  · rw [Array.getElem?_push, if_neg (by simp), Array.getElem?_push, if_pos (by simp)]
  · rw [Array.getElem?_push, if_pos (by simp)]

/-- p is a permutation of 0 .. n-1. -/
structure Prm (n : Nat) (p : Nat → Nat) : Prop where
  lt : ∀ i, i < n → p i < n
  inj : ∀ i j, i < n → j < n → p i = p j → i = j
  sur : ∀ t, t < n → ∃ i, i < n ∧ p i = t

theorem Prm.id (n : Nat) : Prm n (fun i => i) := ⟨fun _ h => h, fun _ _ _ _ h => h, fun t h => ⟨t, h, rfl⟩⟩

/-- p with its values at i and j exchanged. -/
def swp (p : Nat → Nat) (i j : Nat) : Nat → Nat := fun x => if x = j then p i else if x = i then p j else p x

theorem Prm.swp {n : Nat} {p : Nat → Nat} (h : Prm n p) {i j : Nat} (hi : i < n) (hj : j < n) : Prm n (swp p i j) := by
  refine ⟨?_, ?_, ?_⟩
  · intro x hx
    unfold Ybulkblde.swp
    split
    · exact h.lt _ hi
    · split
      · exact h.lt _ hj
      · exact h.lt _ hx
  · intro x y hx hy
    unfold Ybulkblde.swp
    have a1 := h.inj x y hx hy
    have a2 := h.inj x j hx hj
    have a3 := h.inj x i hx hi
    have a4 := h.inj y j hy hj
    have a5 := h.inj y i hy hi
    have a6 := h.inj i j hi hj
    grind
  · intro t ht
    obtain ⟨x, hx, e⟩ := h.sur t ht
    unfold Ybulkblde.swp
    by_cases e1 : x = i
    · exact ⟨j, hj, by rw [if_pos rfl, ← e1, e]⟩
    · by_cases e2 : x = j
      · refine ⟨i, hi, ?_⟩
        by_cases e3 : i = j
        · omega
        · rw [if_neg e3, if_pos rfl, ← e2, e]
      · exact ⟨x, hx, by rw [if_neg e2, if_neg e1, e]⟩

theorem row_swp {w : World} {b n i j : Nat} {p : Nat → Nat} (row : w.rowIs b 3 n (fun x => .int .i64 (p x))) :
    ((w.setCell ⟨b, i, none⟩ (.int .i64 (p j))).setCell ⟨b, j, none⟩ (.int .i64 (p i))).rowIs b 3 n (fun x => .int .i64 (swp p i j x)) := by
  refine ((row.set i _).set j _).congr ?_
  intro x _
  unfold swp
  grind

end Go.Proofs.Ybulkblde
