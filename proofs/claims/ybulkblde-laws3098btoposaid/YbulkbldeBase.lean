/-
  SMALL LAWS over rows of the call's own ('rowIs': Derived/Deep/OwnRows.lean): copy between two such rows; 'Below' beside 'Since'.
-/
import Derived.WalkKit
import Derived.WalkSpells
import Derived.WalkLawsBesides
import Derived.Deep.OwnRows
import Derived.Laws.CopyOwn
namespace Go.Proofs.Ybulkblde
open Go.RowKit

theorem cell_lt {w : World} {a : Addr} {v : Value} (h : w.cell? a = some v) : a.block < w.heap.size := by
  by_cases hb : a.block < w.heap.size
  · exact hb
  · rw [World.cell?, Array.getElem?_eq_none (by omega)] at h
    cases h

/-- A cell of a block that is known whole. -/
theorem cell_whole {w : World} {b : Nat} {cs : Array Value} {t : TypeId} (h : w.heap[b]? = some (.cells cs t (0, 0))) (o : Nat) : w.cell? ⟨b, o, none⟩ = cs[o]? := by
  unfold World.cell?
  rw [h]
  rfl

theorem frozen_whole {w : World} {b : Nat} {cs : Array Value} {t : TypeId} (h : w.heap[b]? = some (.cells cs t (0, 0))) (o : Nat) : w.frozen? ⟨b, o, none⟩ = false := by
  unfold World.frozen?
  rw [h]
  simp

theorem rowIs_list {w : World} {b : Nat} {t : TypeId} {n : Nat} {f : Nat → Value} (h : w.rowIs b t n f) : w.heap[b]? = some (.cells ((List.range n).map f).toArray t (0, 0)) := by
  obtain ⟨c, hb, hn, hc⟩ := h
  rw [hb]
  congr 2
  apply Array.ext_getElem?
  intro i
  by_cases hi : i < n
  · rw [hc i hi]
    simp [hi]
  · rw [Array.getElem?_eq_none (by omega)]
    simp [hi]

theorem rowIs_of_list {w : World} {b : Nat} {t : TypeId} {n : Nat} {f : Nat → Value} (h : w.heap[b]? = some (.cells ((List.range n).map f).toArray t (0, 0))) : w.rowIs b t n f :=
  ⟨_, h, by simp, fun i hi => by simp [hi]⟩

/-- 'copy(d, s)' between two rows of the call's own, of one length. -/
theorem wpList_copy_rows {P : Program} {w : World} {ops : Array Oper} {rest : List Oper} {o : Oper} {a : Act} {Q : Exit → Act → World → Prop} (hgd : o.guard = none) (d s : Operand) (dT sT : TypeId)
    (ho : o.op = .call { callee := .builtin .copy, args := #[d, s], argTypes := #[dT, sT] }) (elem : TypeId) (hu : P.underlying dT = some (.slice elem)) (hsz : (P.info? elem).map (·.size) = some 1)
    (g b n : Nat) (hd : a.eval d = .slice (some ⟨g, 0, none⟩) n n) (hs : a.eval s = .slice (some ⟨b, 0, none⟩) n n)
    (t t' : TypeId) (f0 f : Nat → Value) (hg : w.rowIs g t n f0) (hb : w.rowIs b t' n f) (h1 : ∀ i, i < n → (f i).oneCell' = true) (B : Nat) (hBg : B ≤ g)
    (h : ∀ w', w'.rowIs g t n f → Hid (∀ k, k ≠ g → w'.heap[k]? = w.heap[k]?) → Hid (w'.heap.size = w.heap.size) → Below B w w' → wpList P ops Q rest (a.put o.dst (goInt n)) w') :
    wpList P ops Q (o :: rest) a w := by
  have hl := rowIs_list hg
  have hlen : ((List.range n).map f).length = n := by simp
  refine wpList_copy_own hgd d s dT sT ho elem hu hsz g 0 n n ⟨b, 0, none⟩ n n hd hs _ t hl ((List.range n).map f) (by simp) ?_ (by simp) ?_ ?_
  · intro j v hj
    by_cases hjn : j < n
    · have := hb.cell hjn
      simp [hjn] at hj
      subst hj
      have e : (⟨b, 0, none⟩ : Addr).add j = ⟨b, j, none⟩ := by unfold Addr.add; split <;> simp_all
      rw [e]
      exact this
    · simp [hjn] at hj
  · intro v hv
    simp only [List.mem_map, List.mem_range] at hv
    obtain ⟨i, hi, rfl⟩ := hv
    exact h1 i hi
  · rw [hlen]
    refine h _ ?_ (show ∀ k, k ≠ g → _ from fun k hk => setRow_other w g k _ hk) ?_ (below_setRow (Below.refl _ _) hBg _)
    · apply rowIs_of_list
      rw [setRow_heap w g _ _ t _ hl]
      simp
    · show _ = _
      simp [World.setRow]

end Go.Proofs.Ybulkblde
