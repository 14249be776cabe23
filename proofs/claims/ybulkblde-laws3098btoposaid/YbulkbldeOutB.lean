/-
  THE ROWS OF THE GRAPH AS THE LAW BUILDS THEM: a row of rows, each grown by append.
-/
import Derived.Test.YbulkbldeStart
import Derived.Laws.Append
import Derived.Laws.AppendOwn
import Derived.Below
import Derived.Lib.AppendIntMem
import Derived.Test.YbulkbldeModel
namespace Go.Proofs.Ybulkblde
open Go.RowKit

def ivals (l : List Nat) : List Value := l.map (fun x : Nat => .int .i64 (x : Int))
def OwnI (B : Nat) (v : Value) (l : List Nat) (w : World) : Prop := w.ownsRow B 3 1 v l.length (ivals l)

theorem OwnI.shape {B : Nat} {v : Value} {l : List Nat} {w : World} (h : OwnI B v l w) : ∃ a c, v = .slice a l.length c ∧ l.length ≤ c ∧ c ≤ maxLen := by
  obtain ⟨_, ⟨h0, h1⟩ | ⟨g, cap, cur, hv, _, _, h2, h3, _⟩⟩ := h
  · exact ⟨none, 0, by rw [h0, h1], by omega, by unfold maxLen; omega⟩
  · exact ⟨_, cap, hv, h2, h3⟩

/-- 'append(v, x)' of one number, v owned: where the new row lies. -/
theorem run_int {B : Nat} {v : Value} {l : List Nat} {w : World} (hown : OwnI B v l w) (ty : TypeId) (x : Nat) (hl : l.length ≤ 10000) (hB : B ≤ w.heap.size) (S : Nat) (hcell : w.cell? ⟨S, 0, none⟩ = some (.int .i64 (x : Int))) :
    ∃ v' w', (Builtin.append_ #[34, 34] ty #[v, .slice (some ⟨S, 0, none⟩) 1 1]).run Yba.prog w = .ok v' w' ∧ OwnI B v' (l ++ [x]) w' ∧ w.grownBy w' v.ownBlock ∧ (v'.ownBlock = v.ownBlock ∨ v'.ownBlock = some w.heap.size) := by
  obtain ⟨i, hi, hzz⟩ := Option.map_eq_some_iff.1 info3
  simp only [Prod.mk.injEq] at hzz
  obtain ⟨hz0, hz1, hz2⟩ := hzz
  have hnews : ∀ j u, ([.int .i64 (x : Int)] : List Value)[j]? = some u → w.cell? ((⟨S, 0, none⟩ : Addr).add j) = some u := by
    intro j u hj
    match j, hj with
    | 0, hj => simp at hj; subst hj; simpa [Addr.add] using hcell
  have h1 : ∀ u ∈ ([.int .i64 (x : Int)] : List Value), u.oneCell' = true := by simp [Value.oneCell']
  obtain ⟨v', w', hr, h2, h3, _⟩ := run_append_own (P := Yba.prog) w B 34 ty 3 i (.int .i64 0) 1 8 Yba.underlying34 hi hz0 hz1 hz2 rfl (by decide) v _ _ hown ⟨S, 0, none⟩ 1 1 [.int .i64 (x : Int)] rfl hnews h1 (by unfold maxLen; omega) (by omega) hB
  refine ⟨v', w', hr, ?_, h3, ?_⟩
  · unfold OwnI ivals
    simpa [ivals] using h2
  · have hlc : (ivals l).length = l.length * i.size := by rw [hz1]; simp [ivals]
    rcases hown.2 with ⟨rfl, hn⟩ | ⟨g, cap, cur, rfl, hbg, hg, hnc, hcm, hcs, htake⟩
    · have e := run_append_nil (P := Yba.prog) w 34 ty 3 i (.int .i64 0) Yba.underlying34 hi hz0 ⟨S, 0, none⟩ 1 1 [.int .i64 (x : Int)] (by rw [hz1]; rfl) hnews (by omega) (by omega) (by rw [hz2]; omega)
      have e2 := e.symm.trans hr
      injection e2 with e3 e4
      exact Or.inr (by rw [← e3]; rfl)
    · by_cases hroom : l.length + 1 ≤ cap
      · have hcs' : cur.size = cap := by simpa using hcs
        have e := run_append_room (P := Yba.prog) w 34 ty 3 i Yba.underlying34 hi g l.length cap cur hg ⟨S, 0, none⟩ 1 1 [.int .i64 (x : Int)] (by rw [hz1]; rfl) hnews h1 hroom (by rw [hz1]; simp; omega)
        have e2 := e.symm.trans hr
        injection e2 with e3 e4
        exact Or.inl (by rw [← e3]; rfl)
      · have holds : ∀ j u, (ivals l)[j]? = some u → w.cell? ((⟨g, 0, none⟩ : Addr).add j) = some u := World.ownsRow.cells hown (g := g) rfl
        have e := run_append_grow (P := Yba.prog) w 34 ty 3 i (.int .i64 0) Yba.underlying34 hi hz0 ⟨g, 0, none⟩ l.length cap (ivals l) hlc holds ⟨S, 0, none⟩ 1 1 [.int .i64 (x : Int)] (by rw [hz1]; rfl) hnews (by omega) (by omega) (growslice_fits (by omega) (by rw [hz2]; omega))
        have e2 := e.symm.trans hr
        injection e2 with e3 e4
        exact Or.inr (by rw [← e3]; rfl)

/-- What 'append(v, x)' leaves. -/
structure App (B : Nat) (v : Value) (l : List Nat) (x : Nat) (w : World) (v' : Value) (w' : World) : Prop where
  own : OwnI B v' (l ++ [x]) w'
  grown : w.grownBy w' v.ownBlock
  blk : v'.ownBlock = v.ownBlock ∨ ∃ g, v'.ownBlock = some g ∧ w.heap.size ≤ g

theorem wp_int {ops : Array Oper} {rest : List Oper} {o : Oper} {a : Act} {Q : Exit → Act → World → Prop} (w : World) (hgd : o.guard = none) (s x : Operand)
    (ho : o.op = Op.call { callee := Callee.builtin Builtin.append, args := #[s, x], argTypes := #[34, 34] }) {B : Nat} {v : Value} {l : List Nat} (hown : OwnI B v l w) (hl : l.length ≤ 10000) (hB : B ≤ w.heap.size)
    (z : Nat) (cs : Array Value) (hc : cs = #[.int .i64 (z : Int)]) (hs : a.eval s = v) (hx : a.eval x = .slice (some ⟨w.heap.size, 0, none⟩) 1 1)
    (h : ∀ v' w', App B v l z w v' w' → wpList Yba.prog ops Q rest (a.put o.dst v') w') : wpList Yba.prog ops Q (o :: rest) a (w.alloc (.cells cs 3)) := by
  subst hc
  obtain ⟨v', w', hr, h2, h3, h4⟩ := run_int (w := w.alloc (.cells #[.int .i64 (z : Int)] 3)) (World.ownsRow.alloc hown _) o.type z hl (by simp; omega) w.heap.size (by rw [World.cell?_alloc_new]; rfl)
  refine wpList_plain hgd fun K hK => ?_
  unfold Oper.wp execOp
  simp only [ho, resolve, invoke, builtin, Sem.run_bind, Sem.run_pure, Result.andThen_ok, List.map_toArray, List.map_cons, List.map_nil, hs, hx, hr]
  refine hK _ _ (h _ _ ⟨h2, ?_, ?_⟩)
  · have e : (w.alloc (.cells #[.int .i64 (z : Int)] 3)).heap.size = w.heap.size + 1 := by simp
    exact ⟨h3.os, h3.tape, h3.output, by have := h3.size; omega, fun k hk hn => (h3.block k (by omega) hn).trans (Below.heap_alloc _ _ _ hk)⟩
  · rcases h4 with h4 | h4
    · exact .inl h4
    · exact .inr ⟨_, h4, by simp⟩

/-- the rows so far: the row of rows at block S -/
structure OB (w : World) (n i : Nat) (rows : Nat → List Nat) (wr : World) : Prop where
  but : But [] w wr
  size : w.heap.size + 1 ≤ wr.heap.size
  row : ∃ v : Nat → Value, wr.rowIs w.heap.size 34 n v ∧ (∀ a, a < n → OwnI (w.heap.size + 1) (v a) (rows a) wr) ∧ ∀ a b, a < n → b < n → a ≠ b → (v a).ownBlock = none ∨ (v a).ownBlock ≠ (v b).ownBlock
  ent : ∀ a, a < n → ∀ q (h : q < (rows a).length), (rows a)[q] < n
  len : ∀ a, a < n → (rows a).length ≤ i

theorem OB.start {w : World} {n : Nat} : OB w n 0 (fun _ => []) (w.alloc (.cells (madeCells #[.slice none 0 0] n) 34)) := by
  refine ⟨(But.refl _ _).alloc _, by simp, ⟨_, World.rowIs_made w (.slice none 0 0) n 34, ?_, ?_⟩, ?_, ?_⟩
  · intro a _; unfold OwnI; exact World.ownsRow_nil _ _ _ _
  · intro a b _ _ _; exact .inl rfl
  · intro a _ q h; simp at h
  · intro a _; simp

def addE (rows : Nat → List Nat) (a b : Nat) : Nat → List Nat := fun c => if c = a then rows c ++ [b] else rows c

theorem OB.step {w : World} {n i : Nat} {rows : Nat → List Nat} {wr : World} (h : OB w n i rows wr) {v : Nat → Value} (row : wr.rowIs w.heap.size 34 n v) (own : ∀ a, a < n → OwnI (w.heap.size + 1) (v a) (rows a) wr)
    (ap : ∀ a b, a < n → b < n → a ≠ b → (v a).ownBlock = none ∨ (v a).ownBlock ≠ (v b).ownBlock) (a b : Nat) (ha : a < n) (hb : b < n) {v' : Value} {w' : World} (A : App (w.heap.size + 1) (v a) (rows a) b wr v' w') :
    OB w n (i + 1) (addE rows a b) (w'.setCell ⟨w.heap.size, a, none⟩ v') := by
  have hs := h.size
  have hlt : ∀ c, c < n → ∀ k, (v c).ownBlock = some k → w.heap.size + 1 ≤ k ∧ k < wr.heap.size := fun c hc => World.ownsRow.lt (own c hc)
  have hS : w'.heap[w.heap.size]? = wr.heap[w.heap.size]? := A.grown.block w.heap.size (by omega) (fun e => by have := (hlt a ha _ e.symm).1; omega)
  have hbut : But [] w w' := ⟨A.grown.os.trans h.but.os, A.grown.tape.trans h.but.tape, A.grown.output.trans h.but.output, by have := A.grown.size; omega,
    fun k hk hn => (A.grown.block k (by omega) (fun e => by have := (hlt a ha _ e.symm).1; omega)).trans (h.but.block k hk hn)⟩
  have hsz := A.grown.size
  refine ⟨MBut.setNew hbut (Nat.le_refl _) _ _, by simp [World.setCell]; omega, ⟨_, (row.of_block hS).set a v', ?_, ?_⟩, ?_, ?_⟩
  · intro c hc
    refine ownsRow_setCell_below ?_ (by show w.heap.size < _; omega) _
    by_cases e : c = a
    · subst e
      simp only [if_pos, addE]
      exact A.own
    · simp only [if_neg e, addE]
      exact World.ownsRow.kept (own c hc) A.grown (ap c a hc ha e)
  · intro c d hc hd hcd
    by_cases e : c = a
    · subst e
      have hdc : ¬ d = c := fun e => hcd e.symm
      simp only [if_pos, if_neg hdc]
      rcases A.blk with e1 | ⟨g, e1, e2⟩
      · rw [e1]; exact ap c d ha hd hcd
      · right
        rw [e1]
        intro e3
        have := (hlt d hd g e3.symm).2
        omega
    · simp only [if_neg e]
      by_cases e2 : d = a
      · subst e2
        simp only [if_pos]
        rcases A.blk with e1 | ⟨g, e1, e3⟩
        · rw [e1]; exact ap c d hc hd hcd
        · right
          rw [e1]
          intro e4
          have := (hlt c hc g e4).2
          omega
      · simp only [if_neg e2]
        exact ap c d hc hd hcd
  · intro c hc q hq
    unfold addE at hq ⊢
    by_cases e : c = a
    · subst e
      simp only [if_pos] at hq ⊢
      simp at hq
      by_cases e2 : q < (rows c).length
      · rw [List.getElem_append_left e2]; exact h.ent c hc q e2
      · rw [List.getElem_append_right (by omega)]
        simpa using hb
    · simp only [if_neg e] at hq ⊢
      exact h.ent c hc q hq
  · intro c hc
    unfold addE
    have := h.len c hc
    by_cases e : c = a
    · simp only [if_pos e]; simp; omega
    · simp only [if_neg e]; omega

theorem OB.out {w : World} {n i : Nat} {rows : Nat → List Nat} {wr : World} (h : OB w n i rows wr) (hi : i ≤ 1024) : Out wr w.heap.size n wr.heap.size rows := by
  obtain ⟨v, row, own, _⟩ := h.row
  have hs := h.size
  have hsh : ∀ a, ∃ ad c, a < n → v a = .slice ad (rows a).length c ∧ (rows a).length ≤ c ∧ c ≤ maxLen := by
    intro a
    by_cases ha : a < n
    · obtain ⟨ad, c, e⟩ := (own a ha).shape
      exact ⟨ad, c, fun _ => e⟩
    · exact ⟨none, 0, fun h => absurd h ha⟩
  refine ⟨⟨fun a => (hsh a).choose, fun a => (hsh a).choose_spec.choose, row.congr ?_, ?_⟩, by omega, h.ent, fun a ha => by have := h.len a ha; omega⟩
  · intro a ha
    exact ((hsh a).choose_spec.choose_spec ha).1
  · intro a ha
    obtain ⟨e1, e2, e3⟩ := (hsh a).choose_spec.choose_spec ha
    refine ⟨e2, e3, ?_⟩
    intro q hq
    rcases (own a ha).2 with ⟨_, h0⟩ | ⟨g, cap, cur, hv, hbg, hg, _⟩
    · omega
    · have e7 := hv.symm.trans e1
      injection e7 with e4 e5 e6
      refine ⟨g, e4.symm, (Array.getElem?_eq_some_iff.1 hg).1, ?_⟩
      have := World.ownsRow.cells (own a ha) (g := g) (by rw [hv]; rfl) q (.int .i64 ((rows a)[q] : Int)) (by simp [ivals, hq])
      rwa [Lib.add_plain, Nat.zero_add] at this
end Go.Proofs.Ybulkblde
