/-
  THE ORDER WALK: newNodeSet, NextFree, Place, Fill, Order; what it holds ('OW').
-/
import Derived.Test.YbulkbldeLen
import Derived.Laws.AppendOwn
namespace Go.Proofs.Ybulkblde
open Go.RowKit

/-- The rows of the graph as they lie in memory: the row of rows at block bo, each row's edges in a block below A. -/
structure Out (w : World) (bo n A : Nat) (rows : Nat → List Nat) : Prop where
  row : ∃ ad : Nat → Option Addr, ∃ cp : Nat → Nat, w.rowIs bo 34 n (fun a => .slice (ad a) (rows a).length (cp a)) ∧
    ∀ a, a < n → (rows a).length ≤ cp a ∧ cp a ≤ maxLen ∧ ∀ q (h : q < (rows a).length), ∃ b, ad a = some ⟨b, 0, none⟩ ∧ b < A ∧ w.cell? ⟨b, q, none⟩ = some (.int .i64 ((rows a)[q] : Int))
  lt : bo < A
  ent : ∀ a, a < n → ∀ q (h : q < (rows a).length), (rows a)[q] < n
  len : ∀ a, a < n → (rows a).length ≤ 1024

theorem Out.below {w w' : World} {bo n A : Nat} {rows : Nat → List Nat} (h : Out w bo n A rows) (hb : Below A w w') : Out w' bo n A rows := by
  obtain ⟨⟨ad, cp, r, q⟩, lt, ent, len⟩ := h
  refine ⟨⟨ad, cp, r.of_block (hb.block bo lt), fun a ha => ?_⟩, lt, ent, len⟩
  obtain ⟨q1, q2, q3⟩ := q a ha
  refine ⟨q1, q2, fun j hj => ?_⟩
  obtain ⟨b, e1, e2, e3⟩ := q3 j hj
  exact ⟨b, e1, e2, (World.cell?_of_block (w := w) (hb.block b e2)).trans e3⟩

/-- The order walk's struct at block bw and its rows: bt the tree, bc the counts, bh the held, br the order. -/
structure OW (w : World) (bo n A : Nat) (bw bt bc bh br : Nat) (F : Nat → Bool) (wt : Nat → Nat) (pl : List Nat) : Prop where
  c0 : w.cell? ⟨bw, 0, none⟩ = some (.slice (some ⟨bo, 0, none⟩) n n)
  c1 : w.cell? ⟨bw, 1, none⟩ = some .nilIface
  c2 : w.cell? ⟨bw, 2, none⟩ = some (.slice (some ⟨bc, 0, none⟩) n n)
  c3 : w.cell? ⟨bw, 3, none⟩ = some (.slice (some ⟨bh, 0, none⟩) n n)
  c4 : w.cell? ⟨bw, 4, none⟩ = some (.slice (some ⟨bt, 0, none⟩) (n + 1) (n + 1))
  c5 : w.cell? ⟨bw, 5, none⟩ = some (.int .i64 (stp (Lib.bitLen n)))
  c6 : w.cell? ⟨bw, 6, none⟩ = some (.slice (some ⟨br, 0, none⟩) pl.length n)
  fz : ∀ o, w.frozen? ⟨bw, o, none⟩ = false
  rt : ∃ t, w.rowIs bt 3 (n + 1) (ints t) ∧ Fen n F t
  rc : w.rowIs bc 3 n (fun i => .int .i64 (wt i))
  rh : w.rowIs bh 4 n (fun _ => .bool false)
  rr : ∃ f, w.rowIs br 3 n f ∧ ∀ i (h : i < pl.length), f i = .int .i64 (pl[i] : Int)
  lw : A ≤ bw
  lt : A ≤ bt
  lc : A ≤ bc
  lh : A ≤ bh
  lr : A ≤ br
  d1 : bw ≠ bt
  d2 : bw ≠ bc
  d3 : bw ≠ bh
  d4 : bw ≠ br
  d5 : bt ≠ bc
  d6 : bt ≠ bh
  d7 : bt ≠ br
  d8 : bc ≠ bh
  d9 : bc ≠ br
  d10 : bh ≠ br

theorem OW.xw {w : World} {bo n A : Nat} {bw bt bc bh br : Nat} {F : Nat → Bool} {wt : Nat → Nat} {pl : List Nat} (h : OW w bo n A bw bt bc bh br F wt pl) : bw < w.heap.size ∧ bt < w.heap.size ∧ bc < w.heap.size ∧ bh < w.heap.size ∧ br < w.heap.size := by
  obtain ⟨t, r, _⟩ := h.rt
  obtain ⟨f, r2, _⟩ := h.rr
  exact ⟨cell_lt h.c0, r.lt, h.rc.lt, h.rh.lt, r2.lt⟩

set_option maxRecDepth 100000 in
set_option maxHeartbeats 1000000 in
theorem nextFree_any {bo n A : Nat} {bw bt bc bh br : Nat} {F : Nat → Bool} {wt : Nat → Nat} {pl : List Nat} (w : World) (hn : n ≤ 255) (h : OW w bo n A bw bt bc bh br F wt pl) (q : Nat) (hq : IsLow F n q) :
    Calls Yba.prog 31 #[.pointer (some ⟨bw, 0, none⟩), .int .i64 (-1)] w fun e w' => e = .returned (.int .i64 (if q = n then (-1 : Int) else q)) ∧ But [] w w' := by
  obtain ⟨t, r, hF⟩ := h.rt
  have hx := h.xw.1
  obtain ⟨b1, b2⟩ := bitLen_facts n hn
  have N := after_any bt n (Lib.bitLen n) t F q w hn b2 hF hq b1 r
  have c1 := h.c1
  have c4 := h.c4
  have c5 := h.c5
  unfold nsv at N
  clear h r hF hq
  generalize (if q = n then (-1 : Int) else q) = rv at N ⊢
  go_enter Yba.func31, Yba.ntmps31
  go_wp2_with fail
  refine N.mono ?_
  rintro e w' ⟨rfl, hb⟩
  have c1' : w'.cell? ⟨bw, 1, none⟩ = some .nilIface := (World.cell?_of_block (w := w) (hb.block bw hx (by simp))).trans c1
  clear c1 c4 c5
  go_wp2_with fail
  refine wp_loop_rounds 1 ?_; rw [rounds_succ]
  go_wp2_with fail
  go_ret
  exact ⟨rfl, hb⟩

theorem OW.of {w : World} {bo n A : Nat} {bw bt bc bh br : Nat} {F : Nat → Bool} {wt : Nat → Nat} {pl : List Nat} (h : OW w bo n A bw bt bc bh br F wt pl) {w' : World} {F' : Nat → Bool} {wt' : Nat → Nat} {pl' : List Nat}
    (eW : ∀ o, o ≠ 6 → w'.cell? ⟨bw, o, none⟩ = w.cell? ⟨bw, o, none⟩) (fz : ∀ o, w'.frozen? ⟨bw, o, none⟩ = false) (c6 : w'.cell? ⟨bw, 6, none⟩ = some (.slice (some ⟨br, 0, none⟩) pl'.length n))
    (rt : ∃ t, w'.rowIs bt 3 (n + 1) (ints t) ∧ Fen n F' t) (rc : w'.rowIs bc 3 n (fun i => .int .i64 (wt' i))) (rh : w'.heap[bh]? = w.heap[bh]?)
    (rr : ∃ f, w'.rowIs br 3 n f ∧ ∀ i (h : i < pl'.length), f i = .int .i64 (pl'[i] : Int)) : OW w' bo n A bw bt bc bh br F' wt' pl' :=
  { c0 := (eW 0 (by decide)).trans h.c0, c1 := (eW 1 (by decide)).trans h.c1, c2 := (eW 2 (by decide)).trans h.c2, c3 := (eW 3 (by decide)).trans h.c3, c4 := (eW 4 (by decide)).trans h.c4, c5 := (eW 5 (by decide)).trans h.c5, c6 := c6, fz := fz,
    rt := rt, rc := rc, rh := h.rh.of_block rh, rr := rr, lw := h.lw, lt := h.lt, lc := h.lc, lh := h.lh, lr := h.lr, d1 := h.d1, d2 := h.d2, d3 := h.d3, d4 := h.d4, d5 := h.d5, d6 := h.d6, d7 := h.d7, d8 := h.d8, d9 := h.d9, d10 := h.d10 }

theorem OW.keep {w : World} {bo n A : Nat} {bw bt bc bh br : Nat} {F : Nat → Bool} {wt : Nat → Nat} {pl : List Nat} (h : OW w bo n A bw bt bc bh br F wt pl) {w' : World} (hb : But [] w w') : OW w' bo n A bw bt bc bh br F wt pl := by
  obtain ⟨x1, x2, x3, x4, x5⟩ := h.xw
  have e : ∀ k, k < w.heap.size → w'.heap[k]? = w.heap[k]? := fun k hk => hb.block k hk (by simp)
  obtain ⟨t, r, r2⟩ := h.rt
  obtain ⟨f, s, s2⟩ := h.rr
  exact h.of (fun o _ => World.cell?_of_block (w := w) (e _ x1)) (fun o => (World.frozen?_of_block (w := w) (e _ x1)).trans (h.fz o)) ((World.cell?_of_block (w := w) (e _ x1)).trans h.c6)
    ⟨t, r.of_block (e _ x2), r2⟩ (h.rc.of_block (e _ x3)) (e _ x4) ⟨f, s.of_block (e _ x5), s2⟩

theorem OW.tree {w : World} {bo n A : Nat} {bw bt bc bh br : Nat} {F : Nat → Bool} {wt : Nat → Nat} {pl : List Nat} (h : OW w bo n A bw bt bc bh br F wt pl) {w' : World} {F' : Nat → Bool} (hb : But [bt] w w')
    (hr : ∃ t, w'.rowIs bt 3 (n + 1) (ints t) ∧ Fen n F' t) : OW w' bo n A bw bt bc bh br F' wt pl := by
  obtain ⟨x1, x2, x3, x4, x5⟩ := h.xw
  have e : ∀ k, k < w.heap.size → k ≠ bt → w'.heap[k]? = w.heap[k]? := fun k hk hn => hb.block k hk (by simpa using hn)
  obtain ⟨f, s, s2⟩ := h.rr
  have e1 := e _ x1 h.d1
  exact h.of (fun o _ => World.cell?_of_block (w := w) e1) (fun o => (World.frozen?_of_block (w := w) e1).trans (h.fz o)) ((World.cell?_of_block (w := w) e1).trans h.c6)
    hr (h.rc.of_block (e _ x3 h.d5.symm)) (e _ x4 h.d6.symm) ⟨f, s.of_block (e _ x5 h.d7.symm), s2⟩

theorem OW.count {w : World} {bo n A : Nat} {bw bt bc bh br : Nat} {F : Nat → Bool} {wt : Nat → Nat} {pl : List Nat} (h : OW w bo n A bw bt bc bh br F wt pl) (m x : Nat) :
    OW (w.setCell ⟨bc, m, none⟩ (.int .i64 x)) bo n A bw bt bc bh br F (fun i => if i = m then x else wt i) pl := by
  have e : ∀ k, k ≠ bc → (w.setCell ⟨bc, m, none⟩ (.int .i64 x)).heap[k]? = w.heap[k]? := fun k hn => Below.heap_setCell _ _ _ _ hn
  obtain ⟨t, r, r2⟩ := h.rt
  obtain ⟨f, s, s2⟩ := h.rr
  have e1 := e _ h.d2
  refine h.of (fun o _ => World.cell?_of_block (w := w) e1) (fun o => (World.frozen?_of_block (w := w) e1).trans (h.fz o)) ((World.cell?_of_block (w := w) e1).trans h.c6)
    ⟨t, r.of_block (e _ h.d5), r2⟩ ((h.rc.set m _).congr ?_) (e _ h.d8.symm) ⟨f, s.of_block (e _ h.d9.symm), s2⟩
  intro i _
  by_cases e : i = m <;> simp [e]

theorem OW.push {w : World} {bo n A : Nat} {bw bt bc bh br : Nat} {F : Nat → Bool} {wt : Nat → Nat} {pl : List Nat} (h : OW w bo n A bw bt bc bh br F wt pl) {w' : World} (p : Nat) {f : Nat → Value} (hb : But [br] w w')
    (hr : w'.rowIs br 3 n (fun i => if i = pl.length then .int .i64 p else f i)) (hf : ∀ i (h : i < pl.length), f i = .int .i64 (pl[i] : Int)) :
    OW (w'.setCell ⟨bw, 6, none⟩ (.slice (some ⟨br, 0, none⟩) (pl.length + 1) n)) bo n A bw bt bc bh br F wt (pl ++ [p]) := by
  obtain ⟨x1, x2, x3, x4, x5⟩ := h.xw
  have e : ∀ k, k < w.heap.size → k ≠ br → w'.heap[k]? = w.heap[k]? := fun k hk hn => hb.block k hk (by simpa using hn)
  have e2 : ∀ k, k < w.heap.size → k ≠ br → k ≠ bw → (w'.setCell ⟨bw, 6, none⟩ (.slice (some ⟨br, 0, none⟩) (pl.length + 1) n)).heap[k]? = w.heap[k]? := fun k hk hn hm => (Below.heap_setCell _ _ _ _ hm).trans (e k hk hn)
  obtain ⟨t, r, r2⟩ := h.rt
  have e1 := e _ x1 h.d4
  have hc6 : w'.cell? ⟨bw, 6, none⟩ = some (.slice (some ⟨br, 0, none⟩) pl.length n) := (World.cell?_of_block (w := w) e1).trans h.c6
  refine h.of ?_ ?_ ?_ ⟨t, r.of_block (e2 _ x2 h.d7 h.d1.symm), r2⟩ (h.rc.of_block (e2 _ x3 h.d9 h.d2.symm)) (e2 _ x4 h.d10 h.d3.symm) ⟨_, hr.setOther (fun e => h.d4 e.symm) _, ?_⟩
  · intro o ho
    rw [← World.cell?_of_block (w := w) (w' := w') (a := ⟨bw, o, none⟩) e1]
    simp [go_sem]
  · intro o
    rw [← h.fz o, ← World.frozen?_of_block (w := w) (w' := w') (a := ⟨bw, o, none⟩) e1]
    simp [go_sem]
  · simp [go_sem, hc6]
  · intro i hi
    simp at hi
    by_cases e : i = pl.length
    · subst e; simp
    · rw [List.getElem_append_left (by omega)]
      simp only [if_neg e]
      exact hf i (by omega)

theorem info3 : (Yba.prog.info? 3).map (fun i => (i.zero, i.size, i.bytes)) = some (some (.int .i64 0), 1, 8) := by kernel_rfl

/-- 'append(s, x)' of one number where there is room. -/
theorem wp_room {ops : Array Oper} {rest : List Oper} {o : Oper} {a : Act} {Q : Exit → Act → World → Prop} (w : World) (hgd : o.guard = none) (s x : Operand)
    (ho : o.op = Op.call { callee := Callee.builtin Builtin.append, args := #[s, x], argTypes := #[34, 34] }) (g l cap : Nat) (f : Nat → Value) (row : w.rowIs g 3 cap f) (hl : l < cap)
    (z : Int) (cs : Array Value) (hc : cs = #[.int .i64 z]) (hs : a.eval s = .slice (some ⟨g, 0, none⟩) l cap) (hx : a.eval x = .slice (some ⟨w.heap.size, 0, none⟩) 1 1)
    (h : ∀ w', w'.rowIs g 3 cap (fun i => if i = l then .int .i64 z else f i) → But [g] w w' → wpList Yba.prog ops Q rest (a.put o.dst (.slice (some ⟨g, 0, none⟩) (l + 1) cap)) w') : wpList Yba.prog ops Q (o :: rest) a (w.alloc (.cells cs 3)) := by
  subst hc
  obtain ⟨i, hi, hzz⟩ := Option.map_eq_some_iff.1 info3
  simp only [Prod.mk.injEq] at hzz
  obtain ⟨hz0, hz1, hz2⟩ := hzz
  have hg := rowIs_list (row.alloc (.cells #[.int .i64 z] 3))
  have hr := run_append_room (P := Yba.prog) (w.alloc (.cells #[.int .i64 z] 3)) 34 o.type 3 i Yba.underlying34 hi g l cap _ hg ⟨w.heap.size, 0, none⟩ 1 1 [.int .i64 z] (by rw [hz1]; rfl)
    (by intro j u hj
        match j, hj with
        | 0, hj => simp at hj; subst hj; simp [Addr.add]) (by simp [Value.oneCell']) (by omega) (by rw [hz1]; simp; omega)
  refine wpList_plain hgd fun K hK => ?_
  unfold Oper.wp execOp
  simp only [ho, resolve, invoke, builtin, Sem.run_bind, Sem.run_pure, Result.andThen_ok, List.map_toArray, List.map_cons, List.map_nil, hs, hx, hr]
  refine hK _ _ (h _ ?_ ?_)
  · apply rowIs_of_list
    rw [setRow_heap _ g _ _ 3 _ hg]
    refine congrArg (fun l => some (Obj.cells (List.toArray l) 3 (0, 0))) ?_
    rw [hz1]
    apply List.ext_getElem?
    intro j
    by_cases hj : j < cap
    · rcases Nat.lt_trichotomy j l with e | e | e
      · rw [List.append_assoc, List.getElem?_append_left (by simp; omega)]
        have hne : j ≠ l := by omega
        simp [e, hj, hne]
      · subst e
        rw [List.append_assoc, List.getElem?_append_right (by simp; omega)]
        simp [hj, Nat.min_eq_left (Nat.le_of_lt hj)]
      · rw [List.append_assoc, List.getElem?_append_right (by simp; omega), List.getElem?_append_right (by simp; omega)]
        have hne : j ≠ l := by omega
        simp [Nat.min_eq_left (Nat.le_of_lt hl)]
        rw [show l + 1 + (j - l - 1) = j by omega]
        simp [hj]
        exact fun e2 => absurd e2 hne
    · rw [List.getElem?_eq_none (by simp; omega), List.getElem?_eq_none (by simp; omega)]
  · refine ((But.refl [g] w).alloc _).trans ⟨rfl, rfl, rfl, by simp [World.setRow], fun k _ hk => setRow_other _ g k _ (by simpa using hk)⟩

/-- 'Place p', its loop after j edges. -/
structure PRel (w : World) (bo n A : Nat) (bw bt bc bh br : Nat) (rows : Nat → List Nat) (pl : List Nat) (p j : Nat) (wr : World) : Prop where
  but : But [bw, bt, bc, br] w wr
  st : ∃ wt, OW wr bo n A bw bt bc bh br (fre n (pl ++ [p]) wt) wt (pl ++ [p]) ∧ Plc rows n pl p j wt ∧ ∀ i, i < n → wt i ≤ 1000000

set_option maxRecDepth 100000 in
set_option maxHeartbeats 4000000 in
theorem place_any {bo n A : Nat} {bw bt bc bh br : Nat} {rows : Nat → List Nat} {wt : Nat → Nat} {pl : List Nat} (w : World) (hn : n ≤ 255) (h : OW w bo n A bw bt bc bh br (fre n pl wt) wt pl) (ho : Out w bo n A rows) (hA : A ≤ w.heap.size)
    (hwt : ∀ i, i < n → wt i = deg rows pl n i) (hord : Ord rows n pl) (p : Nat) (hp : fre n pl wt p = true) (hlen : pl.length < n) :
    Calls Yba.prog 32 #[.pointer (some ⟨bw, 0, none⟩), .int .i64 p] w fun e w' => e = .returned (.tuple #[]) ∧ But [bw, bt, bc, br] w w' ∧
      ∃ wt', OW w' bo n A bw bt bc bh br (fre n (pl ++ [p]) wt') wt' (pl ++ [p]) ∧ ∀ i, i < n → wt' i = deg rows (pl ++ [p]) n i := by
  have hp' : fre n pl (deg rows pl n) p = true := by rw [← fre_congr hwt]; exact hp
  have hpn : p < n ∧ p ∉ pl := by
    simp only [fre, decide_eq_true_eq] at hp
    exact ⟨hp.1, hp.2.1⟩
  obtain ⟨hpn, hpl⟩ := hpn
  have hbig : ∀ i, i < n → wt i ≤ 1000000 := fun i hi => by
    rw [hwt i hi]
    have h1 := deg_le rows pl 1024 i n ho.len
    have h2 : n * 1024 ≤ 255 * 1024 := Nat.mul_le_mul_right _ hn
    omega
  obtain ⟨t, r, hF⟩ := h.rt
  have N := change_any bt n (stp (Lib.bitLen n)) t (fre n pl wt) p false (-1) rfl w hn hpn hF (by simpa using hp) r
  unfold nsv at N
  have c4 := h.c4
  have c5 := h.c5
  go_enter Yba.func32, Yba.ntmps32
  go_wp2_with fail
  refine N.mono ?_
  rintro e w1 ⟨rfl, hb1, hr1⟩
  have o1 := h.tree hb1 hr1
  clear c4 c5 N r hF t
  have c6 := o1.c6
  obtain ⟨f, rf, hf⟩ := o1.rr
  have ho1 : Out w1 bo n A rows := ho.below (hb1.below hA (by simp; exact h.lt))
  obtain ⟨ad, cp, ro, rq⟩ := ho1.row
  obtain ⟨x1, x2, x3, x4, x5⟩ := o1.xw
  have hbo : bo < w1.heap.size := ro.lt
  have nbw : bo ≠ bw := by have := ho1.lt; have := h.lw; omega
  have nbr : bo ≠ br := by have := ho1.lt; have := h.lr; omega
  have K : ∀ w2, But [br] w1 w2 → w2.cell? ⟨bw, 6, none⟩ = some (.slice (some ⟨br, 0, none⟩) pl.length n) ∧ w2.frozen? ⟨bw, 6, none⟩ = false ∧ w2.cell? ⟨bw, 0, none⟩ = some (.slice (some ⟨bo, 0, none⟩) n n) ∧
      w2.cell? ⟨bo, p, none⟩ = some (.slice (ad p) (rows p).length (cp p)) := by
    intro w2 hb
    have e1 := hb.block bw x1 (by simpa using h.d4)
    have e2 := hb.block bo hbo (by simpa using nbr)
    exact ⟨(World.cell?_of_block (w := w1) e1).trans o1.c6, (World.frozen?_of_block (w := w1) e1).trans (o1.fz 6), (World.cell?_of_block (w := w1) e1).trans o1.c0, (World.cell?_of_block (w := w1) e2).trans (ro.cell hpn)⟩
  go_wp2_with (at_builtin; refine wp_room w1 rfl _ _ rfl br pl.length n f rf hlen (p : Int) _ rfl rfl rfl ?_; intro w2 rf2 hb2; obtain ⟨k1, k2, k3, k4⟩ := K w2 hb2; have HB := (show Hid _ from hb2); have HR := (show Hid _ from rf2); clear hb2 rf2)
  have o2 := o1.push p HB.out HR.out hf
  rw [← fre_out] at o2
  have but2 : But [bw, bt, bc, br] w (w2.setCell ⟨bw, 6, none⟩ (.slice (some ⟨br, 0, none⟩) (pl.length + 1) n)) :=
    ((hb1.mono (by simp)).trans (HB.out.mono (by simp))).set (by simp) _ _
  have h0 : PRel w bo n A bw bt bc bh br rows pl p 0 (w2.setCell ⟨bw, 6, none⟩ (.slice (some ⟨br, 0, none⟩) (pl.length + 1) n)) := ⟨but2, wt, o2, Plc.start hwt hpl hpn, hbig⟩
  obtain ⟨q1, q2, q3⟩ := rq p hpn
  have q2' := q2
  unfold maxLen at q2'
  have hlen' := ho.len p hpn
  have hent := ho.ent p hpn
  have LA : ∀ x, x ∈ [bw, bt, bc, br] → A ≤ x := by
    intro x hx
    simp at hx
    rcases hx with rfl | rfl | rfl | rfl
    · exact h.lw
    · exact h.lt
    · exact h.lc
    · exact h.lr
  have hcells : ∀ wr, But [bw, bt, bc, br] w wr → ∀ q (h : q < (rows p).length), ∃ b, ad p = some ⟨b, 0, none⟩ ∧ wr.cell? ⟨b, q, none⟩ = some (.int .i64 ((rows p)[q] : Int)) := by
    intro wr hb q hq
    obtain ⟨b, e1, e2, e3⟩ := q3 q hq
    refine ⟨b, e1, ?_⟩
    rw [World.cell?_of_block (w := w) ((hb.below hA LA).block b e2), ← World.cell?_of_block (w := w) (w' := w1) ((hb1.below hA (by simp; exact h.lt)).block b e2)]
    exact e3
  have hnm := fun j (hj : j < (rows p).length) => Plc.not_mem hord hp' hj
  have d2 := h.d2
  have d2' := h.d2.symm
  have d8 := h.d8
  have d8' := h.d8.symm
  clear hb1 hr1 o1 c6 rf hf ho1 ro rq x1 x2 x3 x4 x5 hbo nbw nbr K k1 k2 k3 k4 HB HR o2 but2 q3 hp hbig hwt hp' hpl f
  go_loopw [30] (fun i wr => ∃ j : Nat, j ≤ (rows p).length ∧ i = .int .i64 j ∧ PRel w bo n A bw bt bc bh br rows pl p j wr) (fun i _ => (rows p).length - (intOf i).toNat)
  case atStart => exact ⟨0, Nat.zero_le _, rfl, h0⟩
  case round =>
    obtain ⟨j, hj, rfl, R⟩ := hrel
    clear h0
    obtain ⟨wt', o, P, big⟩ := R.st
    by_cases hlt : j < (rows p).length
    · obtain ⟨b, eb, cb⟩ := hcells wr R.but j hlt
      have hm := hent j hlt
      have hmn := hnm j hlt
      obtain ⟨g1, P'⟩ := P.step hlt hm
      have big1 := big _ hm
      rw [eb]
      have hlti : (j : Int) < ((rows p).length : Int) := by omega
      generalize hmm : (rows p)[j] = m at cb hm hmn g1 P' big1
      obtain ⟨x, hx⟩ : ∃ x, wt' m = x + 1 := ⟨wt' m - 1, by omega⟩
      have oc := o.count m x
      have c1 := o.rc.cell hm
      simp only [hx] at c1
      have c2 := o.c2
      have c3 := o.c3
      have c4 := o.c4
      have c5 := o.c5
      have ch := o.rh.cell hm
      have zf := o.rc.frozen m
      have ewt : (fun i => if i = m then wt' i - 1 else wt' i) = (fun i => if i = m then x else wt' i) := by
        funext i
        by_cases e : i = m
        · simp [e, hx]
        · simp [e]
      rw [ewt] at P'
      have big' : ∀ i, i < n → (if i = m then x else wt' i) ≤ 1000000 := by
        intro i hi
        split
        · omega
        · exact big i hi
      have bset := R.but.set (g := bc) (by simp) m (.int .i64 x)
      clear hcells hent hnm P
      by_cases hx0 : x = 0
      · subst hx0
        have ef : fre n (pl ++ [p]) (fun i => if i = m then 0 else wt' i) = put (fre n (pl ++ [p]) wt') m true := by
          have := fre_put (n := n) (pl := pl ++ [p]) (m := m) (wt := wt') hm hmn (by omega)
          rw [← this, ewt]
        obtain ⟨t, r, hF⟩ := oc.rt
        have N := change_any bt n (stp (Lib.bitLen n)) t (fre n (pl ++ [p]) wt') m true 1 rfl _ hn hm hF (fre_not (by omega)) r
        unfold nsv at N
        have HS := (show Hid _ from (⟨ef, oc, P', big', bset⟩ : _ ∧ _ ∧ _ ∧ _ ∧ _))
        clear ef oc P' big' bset ewt R o big r hF hmn g1 hx hmm hord
        go_wp2_with fail
        refine N.mono ?_
        rintro e w3 ⟨rfl, hb3, hr3⟩
        obtain ⟨ef, oc, P', big', bset⟩ := HS.out
        rw [← ef] at hr3
        have R' : PRel w bo n A bw bt bc bh br rows pl p (j + 1) w3 := ⟨bset.trans (hb3.mono (by simp)), _, oc.tree hb3 hr3, P', big'⟩
        clear ef oc P' big' bset HS hb3 hr3 N
        go_wp2_with fail
        go_roundw
        case rel => exact ⟨j + 1, by omega, by go_num, R'⟩
        case measure => simp [intOf]; omega
      · have ef : fre n (pl ++ [p]) (fun i => if i = m then x else wt' i) = fre n (pl ++ [p]) wt' := by
          have := fre_keep (n := n) (pl := pl ++ [p]) (m := m) (wt := wt') (by omega) (by omega)
          rw [← this, ewt]
        rw [← ef] at oc
        have R' : PRel w bo n A bw bt bc bh br rows pl p (j + 1) (wr.setCell ⟨bc, m, none⟩ (.int .i64 x)) := ⟨bset, _, oc, P', big'⟩
        have hxi : ¬ (x : Int) = 0 := by omega
        have hxd : decide ((x : Int) = 0) = false := decide_eq_false hxi
        have hxb : x ≤ 1000000 := by omega
        clear ef oc P' big' bset ewt R o big hmn g1 hx hmm hord
        go_wp2_with fail
        go_roundw
        case rel => exact ⟨j + 1, by omega, by go_num, R'⟩
        case measure => simp [intOf]; omega
    · obtain rfl : j = (rows p).length := by omega
      have c1 := o.c1
      have HS := (show Hid _ from (⟨R.but, o, P.end_⟩ : _ ∧ _ ∧ _))
      clear hcells hent hnm P big o R hord
      go_wp2_with fail
      go_end0
      obtain ⟨b1, o, pe⟩ := HS.out
      exact ⟨rfl, b1, _, o, pe⟩
end Go.Proofs.Ybulkblde
