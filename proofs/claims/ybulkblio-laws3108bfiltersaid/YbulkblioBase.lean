/-
  SMALL LAWS over memory of the call's own; appends of requests and of durations.
-/
import Derived.Test.YbulkblioProg
import Derived.WalkKit
import Derived.WalkSpells
import Derived.WalkLawsBesides
import Derived.Deep.OwnRows
import Derived.Deep.QuietTactic
import Derived.BigQuiet
import Derived.Deep.DeepCutAuto
import Derived.Deep.CutBlock
import Derived.Laws.Append
import Derived.Laws.AppendOwn
import Derived.Below
import Derived.Lib.AppendIntMem
namespace Go.Proofs.Ybulkblio
open Go.RowKit

theorem cell_lt {w : World} {a : Addr} {v : Value} (h : w.cell? a = some v) : a.block < w.heap.size := by
  by_cases hb : a.block < w.heap.size
  · exact hb
  · rw [World.cell?, Array.getElem?_eq_none (by omega)] at h
    cases h

/-- A cell of a block that is known whole. -/
theorem cell_whole {w : World} {b : Nat} {cs : Array Value} {t : TypeId} (h : w.heap[b]? = some (.cells cs t (0, 0))) (o : Nat) : w.cell? ⟨b, o, none⟩ = cs[o]? := by
  unfold World.cell?
  rw [h]
  rfl

theorem frozen_whole {w : World} {b : Nat} {cs : Array Value} {t : TypeId} (h : w.heap[b]? = some (.cells cs t (0, 0))) (o : Nat) : w.frozen? ⟨b, o, none⟩ = false := by
  unfold World.frozen?
  rw [h]
  simp

theorem rowIs_list {w : World} {b : Nat} {t : TypeId} {n : Nat} {f : Nat → Value} (h : w.rowIs b t n f) : w.heap[b]? = some (.cells ((List.range n).map f).toArray t (0, 0)) := by
  obtain ⟨c, hb, hn, hc⟩ := h
  rw [hb]
  congr 2
  apply Array.ext_getElem?
  intro i
  by_cases hi : i < n
  · rw [hc i hi]
    simp [hi]
  · rw [Array.getElem?_eq_none (by omega)]
    simp [hi]

theorem rowIs_of_list {w : World} {b : Nat} {t : TypeId} {n : Nat} {f : Nat → Value} (h : w.heap[b]? = some (.cells ((List.range n).map f).toArray t (0, 0))) : w.rowIs b t n f :=
  ⟨_, h, by simp, fun i hi => by simp [hi]⟩

/-- From w to w' no block that was there has turned but those of S. -/
structure But (S : List Nat) (w w' : World) : Prop where
  os : w'.os = w.os
  tape : w'.tape = w.tape
  output : w'.output = w.output
  size : w.heap.size ≤ w'.heap.size
  block : ∀ k, k < w.heap.size → k ∉ S → w'.heap[k]? = w.heap[k]?

theorem But.refl (S : List Nat) (w : World) : But S w w := ⟨rfl, rfl, rfl, Nat.le_refl _, fun _ _ _ => rfl⟩
theorem But.trans {S : List Nat} {a b c : World} (h : But S a b) (k : But S b c) : But S a c :=
  ⟨k.os.trans h.os, k.tape.trans h.tape, k.output.trans h.output, Nat.le_trans h.size k.size, fun j hj hn => (k.block j (by have := h.size; omega) hn).trans (h.block j hj hn)⟩
theorem But.mono {S S' : List Nat} {a b : World} (h : But S a b) (hs : ∀ x, x ∈ S → x ∈ S') : But S' a b :=
  ⟨h.os, h.tape, h.output, h.size, fun j hj hn => h.block j hj (fun hx => hn (hs _ hx))⟩
/-- a block that is not there yet need not be named -/
theorem But.drop {S S' : List Nat} {a b : World} (h : But S a b) (hs : ∀ x, x ∈ S → x < a.heap.size → x ∈ S') : But S' a b :=
  ⟨h.os, h.tape, h.output, h.size, fun j hj hn => h.block j hj (fun hx => hn (hs _ hx hj))⟩
theorem But.alloc {S : List Nat} {a b : World} (h : But S a b) (o : Obj) : But S a (b.alloc o) :=
  h.trans ⟨rfl, rfl, rfl, by simp, fun k hk _ => Below.heap_alloc _ _ _ hk⟩
theorem But.set {S : List Nat} {a b : World} (h : But S a b) {g : Nat} (hg : g ∈ S) (i : Nat) (v : Value) : But S a (b.setCell ⟨g, i, none⟩ v) :=
  h.trans ⟨rfl, rfl, rfl, by simp [World.setCell], fun k _ hn => Below.heap_setCell _ _ _ _ (fun e => hn (e ▸ hg))⟩
theorem But.drewN {S : List Nat} {a b : World} (h : But S a b) (m : Nat) : But S a (b.drewN m) :=
  h.trans ⟨rfl, rfl, rfl, by simp, fun k _ _ => rfl⟩
theorem But.below {S : List Nat} {a b : World} (h : But S a b) {B : Nat} (hB : B ≤ a.heap.size) (hs : ∀ x, x ∈ S → B ≤ x) : Below B a b :=
  ⟨h.os, h.tape, h.output, h.size, fun k hk => h.block k (by omega) (fun hx => by have := hs _ hx; omega)⟩

theorem rowIs_at {w : World} {b : Nat} {z : Value} {n : Nat} {t : TypeId} (h : b = w.heap.size) : (w.alloc (.cells (madeCells #[z] n) t)).rowIs b t n (fun _ => z) := by
  subst h; exact World.rowIs_made w z n t
theorem rowIs_but {w w' : World} {b : Nat} {t : TypeId} {n : Nat} {f : Nat → Value} (hb : But [] w w') (h : w.rowIs b t n f) : w'.rowIs b t n f := h.of_block (hb.block b h.lt (by simp))
theorem But.drew {S : List Nat} {a b : World} (h : But S a b) : But S a b.drew := h.drewN 1

theorem heap_new {w : World} {b : Nat} {o : Obj} (h : b = w.heap.size) : (w.alloc o).heap[b]? = some o := by
  subst h
  show (w.heap.push o)[w.heap.size]? = some o
  simp

theorem But.setNew {S : List Nat} {a b : World} (h : But S a b) {g : Nat} (hg : a.heap.size ≤ g) (i : Nat) (v : Value) : But S a (b.setCell ⟨g, i, none⟩ v) :=
  ⟨h.os, h.tape, h.output, by simpa [World.setCell] using h.size, fun k hk hn => (Below.heap_setCell _ _ _ _ (by show k ≠ g; omega)).trans (h.block k hk hn)⟩
theorem But.join {a b c : World} {g : Nat} (h : But [] a b) (k : But [g] b c) (hg : a.heap.size ≤ g) : But [] a c :=
  ⟨k.os.trans h.os, k.tape.trans h.tape, k.output.trans h.output, Nat.le_trans h.size k.size, fun j hj hn => (k.block j (by have := h.size; omega) (by simp; omega)).trans (h.block j hj hn)⟩

theorem info41 : (Yba.prog.info? 41).map (fun i => (i.zero, i.size, i.bytes)) = some (some (.pointer none), 1, 8) := by kernel_rfl
theorem info57 : (Yba.prog.info? 57).map (fun i => (i.zero, i.size, i.bytes)) = some (some (.int .u8 0), 1, 1) := by kernel_rfl

/-- 'append(s, x)' of one request where there is room. -/
theorem wp_room {ops : Array Oper} {rest : List Oper} {o : Oper} {a : Act} {Q : Exit → Act → World → Prop} (w : World) (hgd : o.guard = none) (s x : Operand)
    (ho : o.op = Op.call { callee := Callee.builtin Builtin.append, args := #[s, x], argTypes := #[33, 33] }) (g l cap : Nat) (f : Nat → Value) (row : w.rowIs g 41 cap f) (hl : l < cap)
    (z : Option Addr) (cs : Array Value) (hc : cs = #[.pointer z]) (S : Nat) (hS : S = w.heap.size) (hs : a.eval s = .slice (some ⟨g, 0, none⟩) l cap) (hx : a.eval x = .slice (some ⟨S, 0, none⟩) 1 1)
    (h : ∀ w', w'.rowIs g 41 cap (fun i => if i = l then .pointer z else f i) → But [g] w w' → wpList Yba.prog ops Q rest (a.put o.dst (.slice (some ⟨g, 0, none⟩) (l + 1) cap)) w') : wpList Yba.prog ops Q (o :: rest) a (w.alloc (.cells cs 41)) := by
  subst hc
  subst hS
  obtain ⟨i, hi, hzz⟩ := Option.map_eq_some_iff.1 info41
  simp only [Prod.mk.injEq] at hzz
  obtain ⟨hz0, hz1, hz2⟩ := hzz
  have hg := rowIs_list (row.alloc (.cells #[.pointer z] 41))
  have hr := run_append_room (P := Yba.prog) (w.alloc (.cells #[.pointer z] 41)) 33 o.type 41 i Yba.underlying33 hi g l cap _ hg ⟨w.heap.size, 0, none⟩ 1 1 [.pointer z] (by rw [hz1]; rfl)
    (by intro j u hj
        match j, hj with
        | 0, hj => simp at hj; subst hj; simp [Addr.add]) (by simp [Value.oneCell']) (by omega) (by rw [hz1]; simp; omega)
  refine wpList_plain hgd fun K hK => ?_
  unfold Oper.wp execOp
  simp only [ho, resolve, invoke, builtin, Sem.run_bind, Sem.run_pure, Result.andThen_ok, List.map_toArray, List.map_cons, List.map_nil, hs, hx, hr]
  refine hK _ _ (h _ ?_ ?_)
  · apply rowIs_of_list
    rw [setRow_heap _ g _ _ 41 _ hg]
    refine congrArg (fun l => some (Obj.cells (List.toArray l) 41 (0, 0))) ?_
    rw [hz1]
    apply List.ext_getElem?
    intro j
    by_cases hj : j < cap
    · rcases Nat.lt_trichotomy j l with e | e | e
      · rw [List.append_assoc, List.getElem?_append_left (by simp; omega)]
        have hne : j ≠ l := by omega
        simp [e, hj, hne]
      · subst e
        rw [List.append_assoc, List.getElem?_append_right (by simp; omega)]
        simp [hj, Nat.min_eq_left (Nat.le_of_lt hj)]
      · rw [List.append_assoc, List.getElem?_append_right (by simp; omega), List.getElem?_append_right (by simp; omega)]
        have hne : j ≠ l := by omega
        simp [Nat.min_eq_left (Nat.le_of_lt hl)]
        rw [show l + 1 + (j - l - 1) = j by omega]
        simp [hj]
        exact fun e2 => absurd e2 hne
    · rw [List.getElem?_eq_none (by simp; omega), List.getElem?_eq_none (by simp; omega)]
  · refine ((But.refl [g] w).alloc _).trans ⟨rfl, rfl, rfl, by simp [World.setRow], fun k _ hk => setRow_other _ g k _ (by simpa using hk)⟩
end Go.Proofs.Ybulkblio
