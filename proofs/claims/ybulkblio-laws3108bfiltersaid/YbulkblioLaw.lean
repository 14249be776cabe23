/-
  THE LAW 'LawS3108BFilter': its walk.
-/
import Derived.Test.YbulkblioParts
import Derived.Test.YbulkblioDropW
namespace Go.Proofs.Ybulkblio
open Go.RowKit
attribute [local go_sem ↓] hide70 hide55

/-- the mask's bit c, as the model reckons it -/
def bitOf (m c : Nat) : Bool := decide (¬ bits .and .u8 (m : Int) ((2 ^ c : Nat) : Int) = 0)
/-- the durations that the mask selects, of the first k -/
def durs (m : Nat) : Nat → List Nat
  | 0 => []
  | k + 1 => if bitOf m k then durs m k ++ [k + 1] else durs m k
theorem durs_pos {m c : Nat} (h : bitOf m c = true) : durs m (c + 1) = durs m c ++ [c + 1] := by
  show (if bitOf m c then durs m c ++ [c + 1] else durs m c) = _
  rw [if_pos h]
theorem durs_neg {m c : Nat} (h : ¬ bitOf m c = true) : durs m (c + 1) = durs m c := by
  show (if bitOf m c then durs m c ++ [c + 1] else durs m c) = _
  rw [if_neg h]
theorem durs_len (m k : Nat) : (durs m k).length ≤ k := by
  induction k with
  | zero => simp [durs]
  | succ k ih => unfold durs; split
                 · simp; omega
                 · omega
theorem durs_mem (m k x : Nat) : x ∈ durs m k ↔ 1 ≤ x ∧ x ≤ k ∧ bitOf m (x - 1) = true := by
  induction k with
  | zero => simp [durs]; omega
  | succ k ih =>
    unfold durs
    split
    · rename_i h
      simp only [List.mem_append, List.mem_singleton, ih]
      constructor
      · rintro (⟨a, b, c⟩ | rfl)
        · exact ⟨a, by omega, c⟩
        · exact ⟨by omega, by omega, by simpa using h⟩
      · rintro ⟨a, b, c⟩
        by_cases e : x = k + 1
        · exact .inr e
        · exact .inl ⟨a, by omega, c⟩
    · rename_i h
      rw [ih]
      constructor
      · rintro ⟨a, b, c⟩; exact ⟨a, by omega, c⟩
      · rintro ⟨a, b, c⟩
        by_cases e : x = k + 1
        · subst e; simp at c; exact absurd c h
        · exact ⟨a, by omega, c⟩

/-- the law's locks -/
def its (n m : Nat) (lo : Bool) (z : Nat → Nat) (l s : Nat → Bool) : Its := { n := n, d := fun i => 1 + z i % 3, l := l, s := s, D := durs m 3, lo := lo }

theorem box70e (w : World) : (Instr.box 70 (.agg rq0)).run Yba.prog w = .ok (.pointer (some ⟨w.heap.size, 0, none⟩)) (w.alloc (.cells #[.pointer none, .int .u8 0, .string ByteArray.empty, .string ByteArray.empty, .int .u8 0, .int .u8 0, .bool false, .bool false, .bool false, .pointer none, .pointer none, .int .u64 0, .pointer none, .pointer none, .pointer none, .int .u64 0,
  .int .u8 0, .int .u8 0, .int .u8 0, .int .u8 0, .int .u8 0, .int .u8 0, .int .u8 0, .int .u8 0, .int .u8 0, .int .u8 0, .int .u8 0, .int .u8 0, .int .u8 0, .int .u8 0, .int .u8 0, .int .u8 0] 70)) := box70 w

theorem cell_alloc_some (W : World) (a : Addr) (o : Obj) (h : (W.cell? a).isSome = true) : (W.alloc o).cell? a = W.cell? a := by
  obtain ⟨v, hv⟩ := Option.isSome_iff_exists.1 h
  exact World.cell?_of_block (w := W) (Below.heap_alloc _ _ _ (cell_lt hv))
theorem frozen_alloc (W : World) (c : Array Value) (t : TypeId) (a : Addr) (h : W.frozen? a = false) : (W.alloc (.cells c t)).frozen? a = false := by
  by_cases e : a.block < W.heap.size
  · exact (World.frozen?_of_block (w := W) (Below.heap_alloc _ _ _ e)).trans h
  · unfold World.frozen?
    have : (W.alloc (.cells c t)).heap[a.block]? = some (.cells c t (0, 0)) ∨ (W.alloc (.cells c t)).heap[a.block]? = none := by
      by_cases e2 : a.block = W.heap.size
      · left; exact heap_new e2
      · right
        apply Array.getElem?_eq_none
        simp; omega
    rcases this with h1 | h1
    · rw [h1]; simp
    · rw [h1]

theorem rq_cells (bs : Nat) (d : Int) (l : Bool) (st : Option Addr) (h : Int) : ∀ cs, cs = ((((rq0.setIfInBounds 0 (.pointer (some ⟨bs, 0, none⟩))).setIfInBounds 5 (.int .u8 d)).setIfInBounds 7 (.bool l)).setIfInBounds 14 (.pointer st)).setIfInBounds 15 (.int .u64 h) →
    cs.size = 32 ∧ cs[0]? = some (.pointer (some ⟨bs, 0, none⟩)) ∧ cs[5]? = some (.int .u8 d) ∧ cs[7]? = some (.bool l) ∧ cs[8]? = some (.bool false) ∧ cs[10]? = some (.pointer none) ∧ cs[14]? = some (.pointer st) := by
  rintro cs rfl
  refine ⟨by simp [rq0], ?_, ?_, ?_, ?_, ?_, ?_⟩ <;> simp [rq0]
theorem rq_cells' (bs : Nat) (d : Int) (l : Bool) (h : Int) : ∀ cs, cs = (((rq0.setIfInBounds 0 (.pointer (some ⟨bs, 0, none⟩))).setIfInBounds 5 (.int .u8 d)).setIfInBounds 7 (.bool l)).setIfInBounds 15 (.int .u64 h) →
    cs.size = 32 ∧ cs[0]? = some (.pointer (some ⟨bs, 0, none⟩)) ∧ cs[5]? = some (.int .u8 d) ∧ cs[7]? = some (.bool l) ∧ cs[8]? = some (.bool false) ∧ cs[10]? = some (.pointer none) ∧ cs[14]? = some (.pointer none) := by
  rintro cs rfl
  refine ⟨by simp [rq0], ?_, ?_, ?_, ?_, ?_, ?_⟩ <;> simp [rq0]

/-- what one round has laid where it calls 'add' -/
theorem body_of {wr Wm : World} {r br i n bs d : Nat} {l : Bool} {st : Option Addr} {cs : Array Value} {f : Nat → Value} (hb : But [] wr Wm) (hr : Wm.heap[r]? = some (.cells cs 70 (0, 0)))
    (hc : cs.size = 32 ∧ cs[0]? = some (.pointer (some ⟨bs, 0, none⟩)) ∧ cs[5]? = some (.int .u8 (d : Int)) ∧ cs[7]? = some (.bool l) ∧ cs[8]? = some (.bool false) ∧ cs[10]? = some (.pointer none) ∧ cs[14]? = some (.pointer st))
    (rr : wr.rowIs br 41 n f) (hrr : wr.heap.size ≤ r) : But [br] wr (Wm.setCell ⟨br, i, none⟩ (.pointer (some ⟨r, 0, none⟩))) ∧ (Wm.setCell ⟨br, i, none⟩ (.pointer (some ⟨r, 0, none⟩))).rowIs br 41 n (fun j => if j = i then .pointer (some ⟨r, 0, none⟩) else f j) ∧
      Rq (Wm.setCell ⟨br, i, none⟩ (.pointer (some ⟨r, 0, none⟩))) r bs d l st := by
  have hbr := rr.lt
  refine ⟨(hb.mono (by simp)).set (by simp) _ _, (rowIs_but hb rr).set i _, cs, ?_, hc⟩
  exact (Below.heap_setCell _ _ _ _ (by show r ≠ br; omega)).trans hr

theorem body_of2 {wr : World} {A : Obj} {br i n bs d : Nat} {l : Bool} {st : Option Addr} {cs : Array Value} {f : Nat → Value}
    (hc : cs.size = 32 ∧ cs[0]? = some (.pointer (some ⟨bs, 0, none⟩)) ∧ cs[5]? = some (.int .u8 (d : Int)) ∧ cs[7]? = some (.bool l) ∧ cs[8]? = some (.bool false) ∧ cs[10]? = some (.pointer none) ∧ cs[14]? = some (.pointer st))
    (rr : wr.rowIs br 41 n f) (p : Value) : But [br] wr (((wr.setCell ⟨br, i, none⟩ p).alloc A).alloc (.cells cs 70)) ∧ (((wr.setCell ⟨br, i, none⟩ p).alloc A).alloc (.cells cs 70)).rowIs br 41 n (fun j => if j = i then p else f j) ∧
      Rq (((wr.setCell ⟨br, i, none⟩ p).alloc A).alloc (.cells cs 70)) (wr.heap.size + 1) bs d l st := by
  refine ⟨(((But.refl [br] wr).set (by simp) _ _).alloc _).alloc _, ((rr.set i _).alloc _).alloc _, cs, ?_, hc⟩
  have e : (wr.setCell ⟨br, i, none⟩ p).heap.size = wr.heap.size := by simp [World.setCell]
  have := (heap2 (wr.setCell ⟨br, i, none⟩ p).heap A (.cells cs 70)).2
  rw [e] at this
  exact this

theorem heap_mid (h : Array Obj) (X Y Z : Obj) : (((h.push X).push Y).push Z)[h.size + 1]? = some Y := by
  rw [Array.getElem?_push, if_neg (by simp), Array.getElem?_push, if_pos (by simp)]

theorem but_app {B : Nat} {v : Value} {l : List Nat} {x : Nat} {w wr w' : World} {v' : Value} (h : But [] w wr) (own : OwnD B v l wr) (A : AppD B v l x wr v' w') (hB : w.heap.size ≤ B := by simp) : But [] w w' := by
  have hs := h.size
  refine ⟨A.grown.os.trans h.os, A.grown.tape.trans h.tape, A.grown.output.trans h.output, by have := A.grown.size; omega, fun k hk hn => (A.grown.block k (by omega) (fun e => ?_)).trans (h.block k hk hn)⟩
  have := (World.ownsRow.lt own k e.symm).1
  omega

theorem shl_u8 : ∀ c : Nat, c < 3 → Op.shift .shl .u8 1 .i64 (c : Int) = pure (.int .u8 ((2 ^ c : Nat) : Int)) := by
  intro c hc
  match c, hc with
  | 0, _ => rfl
  | 1, _ => rfl
  | 2, _ => rfl

/-- pointers to the first i requests, nil behind them -/
def ptrs (q : Nat → Nat) (i : Nat) : Nat → Value := fun j => .pointer (if j < i then some ⟨q j, 0, none⟩ else none)

/-- the law's second loop after i locks: C: the heap's size where it began -/
structure LS (w : World) (I : Its) (bs bh bl br C : Nat) (q : Nat → Nat) (st : Nat → Option Addr) (i : Nat) (wr : World) : Prop where
  but : But [bh, bl, br] w wr
  hl : HL wr bh bl I.n i (I.lt i) (I.ct i)
  rl : wr.rowIs bl 41 I.n (ptrs q i)
  rr : wr.rowIs br 41 I.n (ptrs q i)
  rq : ∀ j, j < i → Rq wr (q j) bs (I.d j) (I.l j) (st j)
  stn : ∀ j, j < i → (st j = none ↔ (I.s j && !I.l j) = false)
  ql : ∀ j, j < i → C ≤ q j ∧ q j < wr.heap.size
  qi : ∀ j k, j < k → k < i → q j < q k

theorem ptrs_step (q : Nat → Nat) (i r : Nat) : (fun j => if j = i then Value.pointer (some ⟨r, 0, none⟩) else ptrs q i j) = ptrs (fun j => if j = i then r else q j) (i + 1) := by
  funext j
  unfold ptrs
  by_cases e : j = i
  · subst e; simp
  · have : j < i + 1 ↔ j < i := by omega
    simp [e, this]

theorem LS.step {w : World} {I : Its} {bs bh bl br C : Nat} {q : Nat → Nat} {st : Nat → Option Addr} {i : Nat} {wr w5 w6 : World} (h : LS w I bs bh bl br C q st i wr) (hC : C ≤ wr.heap.size) (ne : bh ≠ bl ∧ bh ≠ br ∧ bl ≠ br) (lt : bh < C ∧ bl < C ∧ br < C)
    (r : Nat) (sr : Option Addr) (hb : But [br] wr w5) (hr : w5.rowIs br 41 I.n (fun j => if j = i then .pointer (some ⟨r, 0, none⟩) else ptrs q i j)) (R : Rq w5 r bs (I.d i) (I.l i) sr) (hs : sr = none ↔ (I.s i && !I.l i) = false)
    (hrC : wr.heap.size ≤ r) {e : Ending} (A : Added w5 bh bl I.n i (I.lt i) (I.ct i) r (I.d i) (I.l i) (ptrs q i) e w6) :
    LS w I bs bh bl br C (fun j => if j = i then r else q j) (fun j => if j = i then sr else st j) (i + 1) w6 := by
  have hsz := hb.size
  have hsz2 := A.but.size
  have hrl := R.lt
  have b2 : But [bh, bl, br] wr w6 := (hb.mono (by simp)).trans (A.but.mono (by simp))
  refine ⟨h.but.trans b2, ?_, ?_, ?_, ?_, ?_, ?_, ?_⟩
  · have := A.hl
    simpa [Its.lt, Its.ct] using (show HL w6 bh bl I.n (i + 1) (I.lt (i + 1)) (I.ct (i + 1)) by
      have e1 : I.ct (i + 1) = (fun c => if c = I.d i then I.ct i (I.d i) + 1 else I.ct i c) := by
        funext c
        simp only [Its.ct]
        by_cases e : c = I.d i
        · subst e; simp
        · have : ¬ I.d i = c := fun a => e a.symm
          simp [e, this]
      rw [e1]
      exact this)
  · rw [← ptrs_step]; exact A.row
  · rw [← ptrs_step]; exact hr.of_block (A.but.block br (by omega) (by simp; exact ⟨ne.2.1.symm, ne.2.2.symm⟩))
  · intro j hj
    by_cases e : j = i
    · subst e
      simp only [if_pos]
      exact R.of_block (A.but.block r hrl (by simp; exact ⟨by omega, by omega⟩))
    · simp only [if_neg e]
      have q1 := h.ql j (by omega)
      exact (h.rq j (by omega)).of_block (b2.block (q j) q1.2 (by simp; exact ⟨by omega, by omega, by omega⟩))
  · intro j hj
    by_cases e : j = i
    · subst e; simpa using hs
    · simp only [if_neg e]; exact h.stn j (by omega)
  · intro j hj
    by_cases e : j = i
    · subst e; simp; exact ⟨by omega, by omega⟩
    · have q1 := h.ql j (by omega)
      simp only [if_neg e]; exact ⟨q1.1, by omega⟩
  · intro j k hjk hk
    have ej : ¬ j = i := by omega
    simp only [if_neg ej]
    by_cases e : k = i
    · subst e
      have q1 := h.ql j (by omega)
      simp; omega
    · simp only [if_neg e]; exact h.qi j k hjk (by omega)

/-- the law's third loop after i locks: the wanted ones, the counts of each duration -/
structure WS3 (w6 : World) (I : Its) (bw B3 : Nat) (q : Nat → Nat) (i : Nat) (v : Value) (wr : World) : Prop where
  but : But [bw] w6 wr
  own : OwnP B3 v ((I.kept i).map (fun j => some ⟨q j, 0, none⟩)) wr
  row : wr.rowIs bw 34 4 (fun c => .int .i64 (I.las i c : Int))

theorem WS3.start (w : World) (I : Its) (q : Nat → Nat) : WS3 (w.alloc (.cells #[.int .i64 0, .int .i64 0, .int .i64 0, .int .i64 0] 34)) I w.heap.size (w.heap.size + 1) q 0 (.slice none 0 0) (w.alloc (.cells #[.int .i64 0, .int .i64 0, .int .i64 0, .int .i64 0] 34)) := by
  refine ⟨But.refl _ _, World.ownsRow_nil _ _ _ _, #[.int .i64 0, .int .i64 0, .int .i64 0, .int .i64 0], heap_new rfl, rfl, ?_⟩
  intro c hc
  match c, hc with
  | 0, _ => rfl
  | 1, _ => rfl
  | 2, _ => rfl
  | 3, _ => rfl

theorem WS3.keep {w6 : World} {I : Its} {bw B3 : Nat} {q : Nat → Nat} {i : Nat} {v : Value} {wr W w' : World} {v' : Value} (R : WS3 w6 I bw B3 q i v wr) (h6 : w6.heap.size = B3) (hbw : bw < B3) (hd : I.drp i = false)
    (hW : But [bw] wr W) (own : OwnP B3 v ((I.kept i).map (fun j => some ⟨q j, 0, none⟩)) W) (row : W.rowIs bw 34 4 (fun c => if c = I.d i then .int .i64 ((I.las i (I.d i) + 1 : Nat) : Int) else .int .i64 (I.las i c : Int)))
    (A : App B3 v ((I.kept i).map (fun j => some ⟨q j, 0, none⟩)) (some ⟨q i, 0, none⟩) W v' w') : WS3 w6 I bw B3 q (i + 1) v' w' := by
  obtain ⟨_, e2, e3, _⟩ := lit_keep hd
  have hg : ∀ k, k < B3 → w'.heap[k]? = W.heap[k]? := fun k hk => A.grown.block k (by have := R.but.size; have := hW.size; omega) (fun e => by have := (World.ownsRow.lt own k e.symm).1; omega)
  refine ⟨?_, ?_, ?_⟩
  · have b1 := R.but.trans hW
    exact ⟨A.grown.os.trans b1.os, A.grown.tape.trans b1.tape, A.grown.output.trans b1.output, Nat.le_trans b1.size A.grown.size, fun k hk hn => (hg k (by omega)).trans (b1.block k hk hn)⟩
  · rw [e3]; simpa using A.own
  · refine (row.of_block (hg bw hbw)).congr ?_
    intro c _
    rw [e2 c]
    by_cases e : c = I.d i
    · subst e; simp
    · have : ¬ I.d i = c := fun a => e a.symm
      simp [e, this]

theorem WS3.drop {w6 : World} {I : Its} {bw B3 : Nat} {q : Nat → Nat} {i : Nat} {v : Value} {wr : World} (R : WS3 w6 I bw B3 q i v wr) (hd : I.drp i = true) (A : Obj) : WS3 w6 I bw B3 q (i + 1) v (wr.alloc A) := by
  obtain ⟨_, e2, e3, _⟩ := lit_drop hd
  refine ⟨R.but.alloc _, ?_, (R.row.alloc _).congr (fun c _ => by rw [e2 c])⟩
  rw [e3]
  exact World.ownsRow.alloc R.own _

theorem part3 (xs : Array Value) (i : Nat) (x : Int) (h : xs[i]? = some (.int .i64 x)) (w : World) : (part 3 xs i).run Yba.prog w = .ok (.int .i64 x) w := by
  have hs : ∀ w, (sizeOf 3).run Yba.prog w = .ok 1 w := fun _ => by kernel_rfl
  unfold part
  simp [go_sem, hs, h]
theorem eq3 (d : Nat) (x : Int) (w : World) : (Op.equalIn (d + 1) 3 (.int .i64 x) (.int .i64 x)).run Yba.prog w = .ok true w := by
  unfold Op.equalIn
  simp [run_underlying Yba.underlying3]
theorem eqIn34 (x0 x1 x2 x3 : Int) (d : Nat) (w : World) : (Op.equalIn (d + 2) 34 (.agg #[.int .i64 x0, .int .i64 x1, .int .i64 x2, .int .i64 x3]) (.agg #[.int .i64 x0, .int .i64 x1, .int .i64 x2, .int .i64 x3])).run Yba.prog w = .ok true w := by
    have p0 := fun w => part3 #[.int .i64 x0, .int .i64 x1, .int .i64 x2, .int .i64 x3] 0 x0 rfl w
    have p1 := fun w => part3 #[.int .i64 x0, .int .i64 x1, .int .i64 x2, .int .i64 x3] 1 x1 rfl w
    have p2 := fun w => part3 #[.int .i64 x0, .int .i64 x1, .int .i64 x2, .int .i64 x3] 2 x2 rfl w
    have p3 := fun w => part3 #[.int .i64 x0, .int .i64 x1, .int .i64 x2, .int .i64 x3] 3 x3 rfl w
    have hs : ∀ w, (sizeOf 3).run Yba.prog w = .ok 1 w := fun _ => by kernel_rfl
    unfold Op.equalIn
    simp only [Sem.run_bind, run_underlying Yba.underlying34, Result.andThen_ok]
    simp only [Std.Legacy.Range.forIn_eq_forIn_range', Std.Legacy.Range.size, Nat.sub_zero, Nat.add_sub_cancel, Nat.div_one, List.range'_succ, List.range'_zero, List.forIn_cons, List.forIn_nil, hs]
    simp [p0, p1, p2, p3, eq3]
theorem neq34 (x0 x1 x2 x3 : Int) (w : World) : (binOp .neq 34 (.agg #[.int .i64 x0, .int .i64 x1, .int .i64 x2, .int .i64 x3]) (.agg #[.int .i64 x0, .int .i64 x1, .int .i64 x2, .int .i64 x3])).run Yba.prog w = .ok (.bool false) w := by
  simp only [binOp]
  simp [Op.equal, Op.maxDepth, eqIn34 x0 x1 x2 x3 9998]
theorem eql35' (w : World) : (binOp .eql 35 (.slice none 0 0) (.slice none 0 0)).run Yba.prog w = .ok (.bool true) w := Lib.run_eql_slice_nil (P := Yba.prog) w 35 90 none 0 0 0 0 Yba.underlying35
theorem its_n (n m : Nat) (lo : Bool) (z : Nat → Nat) (l s : Nat → Bool) : (its n m lo z l s).n = n := rfl

theorem neq41 (b : Nat) (w : World) : (binOp .neq 41 (.pointer (some ⟨b, 0, none⟩)) (.pointer (some ⟨b, 0, none⟩))).run Yba.prog w = .ok (.bool false) w := by
  have h : ∀ d, (Op.equalIn (d + 1) 41 (.pointer (some ⟨b, 0, none⟩)) (.pointer (some ⟨b, 0, none⟩))).run Yba.prog w = .ok true w := fun d => by
    unfold Op.equalIn
    simp [run_underlying Yba.underlying41]
    unfold sameAddr
    simp
  simp only [binOp]
  simp [Op.equal, Op.maxDepth, h 9999]

theorem inn_bit (n m : Nat) (lo' : Bool) (z : Nat → Nat) (l s : Nat → Bool) (i c : Nat) (h : 1 + z i % 3 = c + 1) : (its n m lo' z l s).inn i = bitOf m c := by
  have hc : c < 3 := by omega
  show decide (1 + z i % 3 ∈ durs m 3) = bitOf m c
  rw [h]
  by_cases hb : bitOf m c = true
  · rw [hb]
    exact decide_eq_true ((durs_mem m 3 (c + 1)).2 ⟨by omega, by omega, by simpa using hb⟩)
  · have : c + 1 ∉ durs m 3 := fun hm => hb (by simpa using ((durs_mem m 3 (c + 1)).1 hm).2.2)
    rw [decide_eq_false this]
    simpa using hb

set_option maxRecDepth 100000 in
set_option maxHeartbeats 4000000 in
theorem filter_row (a0 : Option Addr) (n cap : Nat) (z : Nat → Nat) (l s : Nat → Bool) (m : Nat) (lo lo' : Bool) (hlo' : Hid (lo' = lo)) (w : World) (hn : n ≤ 1024) (_hm : m ≤ 255) (hz : ∀ i, i < n → z i ≤ 255)
    (hcell : ∀ i, i < n → ∃ b off, a0 = some ⟨b, off, none⟩ ∧ b < w.heap.size ∧ w.cell? ⟨b, off + i * 3, none⟩ = some (.int .u8 (z i : Int)) ∧ w.cell? ⟨b, off + i * 3 + 1, none⟩ = some (.bool (l i)) ∧ w.cell? ⟨b, off + i * 3 + 2, none⟩ = some (.bool (s i))) :
    Calls Yba.prog 3 #[.slice a0 n cap, .int .u8 m, .bool lo] w fun e w' => e = .returned (.bool true) ∧ Below w.heap.size w w' := by
  have h1024 : decide ((1024 : Int) < (n : Int)) = false := decide_eq_false (by omega)
  have hb55 := run_bld55
  have hx55 := box55
  go_enter Yba.func3, Yba.ntmps3
  go_wp2_with fail
  go_loopw [9, 8] (fun k v wr => ∃ c : Nat, c ≤ 3 ∧ k = .int .i64 c ∧ OwnD (w.heap.size + 1) v (durs m c) wr ∧ But [] (w.alloc (.cells ss0 55)) wr) (fun k _ _ => 3 - (intOf k).toNat)
  case atStart => exact ⟨0, by omega, rfl, World.ownsRow_nil _ _ _ _, But.refl _ _⟩
  case round =>
    obtain ⟨c, hc, rfl, own, hb⟩ := hrel
    obtain ⟨a, c', rfl, hlc, hcm⟩ := own.shape
    by_cases hlt : c < 3
    · have hdl := durs_len m c
      have hsz := hb.size
      have hc3 : c = 0 ∨ c = 1 ∨ c = 2 := by omega
      rcases hc3 with rfl | rfl | rfl
      · -- bit 0
        have hci : ((0 : Nat) : Int) < 3 := by decide
        by_cases hbit : bitOf m 0 = true
        · have hbi : ¬ bits .and .u8 (m : Int) 1 = 0 := by simpa [bitOf] using hbit
          have e : durs m (0 + 1) = durs m 0 ++ [0 + 1] := durs_pos hbit
          have K : ∀ v' w2, AppD (w.heap.size + 1) (.slice a (durs m 0).length c') (durs m 0) (0 + 1) wr v' w2 → Hid (OwnD (w.heap.size + 1) v' (durs m (0 + 1)) w2 ∧ But [] (w.alloc (.cells ss0 55)) w2) := by
            intro v' w2 A
            rw [e]
            exact ⟨A.own, but_app hb own A⟩
          clear hb hcell e hbit
          go_wp2_with (at_builtin; refine wp_dur wr rfl _ _ rfl own (by omega) (by simp at hsz; omega) (0 + 1) _ rfl rfl rfl ?_; intro v' w2 A'; obtain ⟨a', n', c2, rfl⟩ := A'.own.shape'; have HK := K _ w2 A'; clear A')
          go_roundw
          case rel => exact ⟨0 + 1, by omega, by go_num, HK.out⟩
          case measure => simp [intOf]
        · have hbi : bits .and .u8 (m : Int) 1 = 0 := by simpa [bitOf] using hbit
          have e : durs m (0 + 1) = durs m 0 := durs_neg hbit
          have own' : OwnD (w.heap.size + 1) (.slice a (durs m 0).length c') (durs m (0 + 1)) wr := by rw [e]; exact own
          have HS := (show Hid _ from (⟨own', hb⟩ : _ ∧ _))
          clear own own' hb hcell e hbit
          go_wp2_with fail
          go_roundw
          case rel => exact ⟨0 + 1, by omega, by go_num, HS.out⟩
          case measure => simp [intOf]
      · -- bit 1
        have hci : ((1 : Nat) : Int) < 3 := by decide
        by_cases hbit : bitOf m 1 = true
        · have hbi : ¬ bits .and .u8 (m : Int) 2 = 0 := by simpa [bitOf] using hbit
          have e : durs m (1 + 1) = durs m 1 ++ [1 + 1] := durs_pos hbit
          have K : ∀ v' w2, AppD (w.heap.size + 1) (.slice a (durs m 1).length c') (durs m 1) (1 + 1) wr v' w2 → Hid (OwnD (w.heap.size + 1) v' (durs m (1 + 1)) w2 ∧ But [] (w.alloc (.cells ss0 55)) w2) := by
            intro v' w2 A
            rw [e]
            exact ⟨A.own, but_app hb own A⟩
          clear hb hcell e hbit
          go_wp2_with (at_builtin; refine wp_dur wr rfl _ _ rfl own (by omega) (by simp at hsz; omega) (1 + 1) _ rfl rfl rfl ?_; intro v' w2 A'; obtain ⟨a', n', c2, rfl⟩ := A'.own.shape'; have HK := K _ w2 A'; clear A')
          go_roundw
          case rel => exact ⟨1 + 1, by omega, by go_num, HK.out⟩
          case measure => simp [intOf]
        · have hbi : bits .and .u8 (m : Int) 2 = 0 := by simpa [bitOf] using hbit
          have e : durs m (1 + 1) = durs m 1 := durs_neg hbit
          have own' : OwnD (w.heap.size + 1) (.slice a (durs m 1).length c') (durs m (1 + 1)) wr := by rw [e]; exact own
          have HS := (show Hid _ from (⟨own', hb⟩ : _ ∧ _))
          clear own own' hb hcell e hbit
          go_wp2_with fail
          go_roundw
          case rel => exact ⟨1 + 1, by omega, by go_num, HS.out⟩
          case measure => simp [intOf]
      · -- bit 2
        have hci : ((2 : Nat) : Int) < 3 := by decide
        by_cases hbit : bitOf m 2 = true
        · have hbi : ¬ bits .and .u8 (m : Int) 4 = 0 := by simpa [bitOf] using hbit
          have e : durs m (2 + 1) = durs m 2 ++ [2 + 1] := durs_pos hbit
          have K : ∀ v' w2, AppD (w.heap.size + 1) (.slice a (durs m 2).length c') (durs m 2) (2 + 1) wr v' w2 → Hid (OwnD (w.heap.size + 1) v' (durs m (2 + 1)) w2 ∧ But [] (w.alloc (.cells ss0 55)) w2) := by
            intro v' w2 A
            rw [e]
            exact ⟨A.own, but_app hb own A⟩
          clear hb hcell e hbit
          go_wp2_with (at_builtin; refine wp_dur wr rfl _ _ rfl own (by omega) (by simp at hsz; omega) (2 + 1) _ rfl rfl rfl ?_; intro v' w2 A'; obtain ⟨a', n', c2, rfl⟩ := A'.own.shape'; have HK := K _ w2 A'; clear A')
          go_roundw
          case rel => exact ⟨2 + 1, by omega, by go_num, HK.out⟩
          case measure => simp [intOf]
        · have hbi : bits .and .u8 (m : Int) 4 = 0 := by simpa [bitOf] using hbit
          have e : durs m (2 + 1) = durs m 2 := durs_neg hbit
          have own' : OwnD (w.heap.size + 1) (.slice a (durs m 2).length c') (durs m (2 + 1)) wr := by rw [e]; exact own
          have HS := (show Hid _ from (⟨own', hb⟩ : _ ∧ _))
          clear own own' hb hcell e hbit
          go_wp2_with fail
          go_roundw
          case rel => exact ⟨2 + 1, by omega, by go_num, HS.out⟩
          case measure => simp [intOf]
    · obtain rfl : c = 3 := by omega
      obtain ⟨wd, rfl⟩ : ∃ wd, wd = wr := ⟨wr, rfl⟩
      have hsz := hb.size
      simp at hsz
      have hbw : But [] w wd := ((But.refl [] w).alloc _).trans hb
      have hss : wd.heap[w.heap.size]? = some (.cells ss0 55 (0, 0)) := (hb.block w.heap.size (by simp) (by simp)).trans (heap_new rfl)
      have hD := own.dur (fun x hx => by have := (durs_mem m 3 x).1 hx; omega) (durs_len m 3)
      have hDb : ∀ b, a = some ⟨b, 0, none⟩ → w.heap.size + 1 ≤ b ∧ b < wd.heap.size := fun b e => World.ownsRow.lt own b (by rw [e]; rfl)
      have NH := newHeld_any n wd hn
      have HD := (show Hid _ from (⟨hbw, hss, hD, hDb⟩ : _ ∧ _ ∧ _ ∧ _))
      clear hb own hlt hc hbw hss hD hDb
      go_wp2_with fail
      refine NH.mono ?_
      rintro e w1 ⟨hb1, bl, rfl, l1, l2, rl⟩
      unfold hl0
      have hs1 := hb1.size
      have hmkr := run_make_row' (P := Yba.prog) 33 41 (.pointer none) 8 Yba.underlying33 info41 rfl .i64 .i64 n (by omega) (by omega)
      clear NH
      go_wp2_with fail
      obtain ⟨hbw, hss, hD, hDb⟩ := HD.out
      have hW0 : But [] w ((w1.alloc (.cells (hl0 (.slice (some ⟨bl, 0, none⟩) 0 n)) 40)).alloc (.cells (madeCells #[.pointer none] n) 41)) := ((hbw.trans hb1).alloc _).alloc _
      have hWd : But [] wd ((w1.alloc (.cells (hl0 (.slice (some ⟨bl, 0, none⟩) 0 n)) 40)).alloc (.cells (madeCells #[.pointer none] n) 41)) := (hb1.alloc _).alloc _
      have hWs : ((w1.alloc (.cells (hl0 (.slice (some ⟨bl, 0, none⟩) 0 n)) 40)).alloc (.cells (madeCells #[.pointer none] n) 41)).heap.size = w1.heap.size + 2 := by simp
      have h0 : LS ((w1.alloc (.cells (hl0 (.slice (some ⟨bl, 0, none⟩) 0 n)) 40)).alloc (.cells (madeCells #[.pointer none] n) 41)) (its n m lo' z l s) w.heap.size w1.heap.size bl (w1.heap.size + 1) (w1.heap.size + 2) (fun _ => 0) (fun _ => none) 0
          ((w1.alloc (.cells (hl0 (.slice (some ⟨bl, 0, none⟩) 0 n)) 40)).alloc (.cells (madeCells #[.pointer none] n) 41)) := by
        refine ⟨But.refl _ _, ?_, ?_, ?_, fun j hj => absurd hj (by omega), fun j hj => absurd hj (by omega), fun j hj => absurd hj (by omega), fun j k hj hk => absurd hk (by omega)⟩
        · exact hl_new (heap2 w1.heap _ _).1
        · exact ((rl.alloc _).alloc _).congr (fun j _ => by simp [ptrs])
        · refine World.rowIs.congr (rowIs_at (by simp)) (fun j _ => by simp [ptrs])
      unfold hl0 at hW0 hWd hWs h0
      generalize ((w1.alloc (.cells #[.slice (some ⟨bl, 0, none⟩) 0 n, .int .i64 0, .int .i64 0, .int .i64 0, .int .i64 0, .int .i64 0, .slice none 0 0, .int .i64 0, .int .i64 0, .int .i64 0, .int .i64 0, .int .i64 0, .int .i64 0, .pointer none] 40)).alloc (.cells (madeCells #[.pointer none] n) 41)) = W0 at hW0 hWd hWs h0 ⊢
      have hss0 := (hWd.block w.heap.size (by omega) (by simp)).trans hss
      have hD0 : DurIs W0 a (durs m 3) := by
        refine ⟨fun j hj => ?_, hD.le, hD.len⟩
        obtain ⟨b, e1, e2⟩ := hD.at_ j hj
        exact ⟨b, e1, (World.cell?_of_block (w := wd) (hWd.block b (hDb b e1).2 (by simp))).trans e2⟩
      have HD0 := (show Hid _ from (⟨hss0, hD0, hDb, hW0⟩ : _ ∧ _ ∧ _ ∧ _))
      generalize hbh : w1.heap.size = bh at l2 hs1 hWs h0 ⊢
      clear HD hbw hss hD hDb hb1 rl hmkr hWd hss0 hD0 hbh
      obtain ⟨br, hbr⟩ : ∃ br, br = bh + 1 := ⟨_, rfl⟩
      obtain ⟨C, hC⟩ : ∃ C, C = bh + 2 := ⟨_, rfl⟩
      rw [← hbr, ← hC] at h0
      rw [← hbr]
      have hWC : W0.heap.size = C := by omega
      have g1 : bl < bh := l2
      have g2 : bh < br := by omega
      have g3 : br < C := by omega
      have g4 : w.heap.size < bl := by omega
      clear hbr hC hWs
      go_loopw [54] (fun i wr => ∃ k : Nat, k ≤ n ∧ i = .int .i64 k ∧ ∃ q st, LS W0 (its n m lo' z l s) w.heap.size bh bl br C q st k wr) (fun i _ => n - (intOf i).toNat)
      case atStart => exact ⟨0, Nat.zero_le _, rfl, _, _, h0⟩
      case round =>
        clear h0
        obtain ⟨i, hi, rfl, q, st, R⟩ := hrel
        by_cases hlt : i < n
        · obtain ⟨b, off, rfl, hb0, x0, x1, x2⟩ := hcell i hlt
          obtain ⟨hss0, hD0, hDb, hW0⟩ := HD0.out
          have eb : wr.heap[b]? = w.heap[b]? := (R.but.block b (by omega) (by simp; exact ⟨by omega, by omega, by omega⟩)).trans (hW0.block b hb0 (by simp))
          have y0 := (World.cell?_of_block (w := w) (a := ⟨b, off + i * 3, none⟩) eb).trans x0
          have y1 := (World.cell?_of_block (w := w) (a := ⟨b, off + i * 3 + 1, none⟩) eb).trans x1
          have y2 := (World.cell?_of_block (w := w) (a := ⟨b, off + i * 3 + 2, none⟩) eb).trans x2
          have hzi := hz i hlt
          have hlti : (i : Int) < n := by omega
          have hbl := run_bld70
          have hbx := box70
          obtain ⟨dd, hdd⟩ : ∃ dd : Nat, 1 + z i % 3 = dd := ⟨_, rfl⟩
          have hdi : (1 : Int) + (z i : Int) % 3 = (dd : Int) := by omega
          have hddl : dd < 4 := by omega
          have cr := R.rr.cell hlt
          have zr := R.rr.frozen i
          have hwrs := R.but.size
          have HH := (show Hid _ from (⟨R, hdd⟩ : _ ∧ _))
          have nb1 : br < wr.heap.size := by omega
          have hc2 : ∀ A B : Obj, ((wr.alloc A).alloc B).cell? ⟨br, i, none⟩ = some (ptrs q i i) := fun A B => by
            rw [cell_alloc_some _ _ _ (by rw [cell_alloc_some _ _ _ (by rw [cr]; rfl), cr]; rfl), cell_alloc_some _ _ _ (by rw [cr]; rfl), cr]
          have hc3 : ∀ A B O : Obj, (((wr.alloc A).alloc B).alloc O).cell? ⟨br, i, none⟩ = some (ptrs q i i) := fun A B O => by
            rw [cell_alloc_some _ _ _ (by rw [hc2]; rfl), hc2]
          have hf2 : ∀ (c1 c2 : Array Value) (t1 t2 : TypeId), ((wr.alloc (.cells c1 t1)).alloc (.cells c2 t2)).frozen? ⟨br, i, none⟩ = false := fun c1 c2 t1 t2 => frozen_alloc _ _ _ _ (frozen_alloc _ _ _ _ zr)
          have hf3 : ∀ (c1 c2 c3 : Array Value) (t1 t2 t3 : TypeId), (((wr.alloc (.cells c1 t1)).alloc (.cells c2 t2)).alloc (.cells c3 t3)).frozen? ⟨br, i, none⟩ = false := fun c1 c2 c3 t1 t2 t3 => frozen_alloc _ _ _ _ (hf2 c1 c2 t1 t2)
          have v0 : rq0[0]? = some (.pointer none) := rfl
          have v5 : rq0[5]? = some (.int .u8 0) := rfl
          have v7 : rq0[7]? = some (.bool false) := rfl
          have v14 : rq0[14]? = some (.pointer none) := rfl
          have v15 : rq0[15]? = some (.int .u64 0) := rfl
          clear hcell x0 x1 x2 eb R hss0 hD0 hDb hW0 hdd hb55 hx55
          cases h1 : s i with
          | true =>
            cases h2 : l i with
            | true =>
              rw [h1] at y2
              rw [h2] at y1
              have HF := (show Hid _ from (⟨hlt, h2, h1⟩ : _ ∧ _ ∧ _))
              clear h1 h2
              go_wp2_with fail
              obtain ⟨R, hdd⟩ := HH.out
              obtain ⟨_, h2, h1⟩ := HF.out
              generalize hcs : (((rq0.setIfInBounds 0 (.pointer (some ⟨w.heap.size, 0, none⟩))).setIfInBounds 5 (.int .u8 (dd : Int))).setIfInBounds 7 (.bool true)).setIfInBounds 15 (.int .u64 (i : Int)) = cs
              generalize hA : (Obj.cells #[.int .u8 (z i : Int), .bool true, .bool true] 60) = A
              have k0 := body_of2 (i := i) (A := A) (rq_cells' w.heap.size dd true i cs hcs.symm) R.rr (.pointer (some ⟨wr.heap.size + 1, 0, none⟩))
              generalize (((wr.setCell ⟨br, i, none⟩ (.pointer (some ⟨wr.heap.size + 1, 0, none⟩))).alloc A).alloc (.cells cs 70)) = Wx at k0 ⊢
              obtain ⟨k1, k2, k3⟩ := k0
              have e1 : (its n m lo' z l s).d i = dd := hdd
              have e2 : (its n m lo' z l s).l i = true := h2
              have e3 : (its n m lo' z l s).s i = true := h1
              have k4 : Rq Wx (wr.heap.size + 1) w.heap.size ((its n m lo' z l s).d i) ((its n m lo' z l s).l i) none := by rw [e1, e2]; exact k3
              have ltl := (its n m lo' z l s).lt_le i
              have ctl := (its n m lo' z l s).ct_le i ((its n m lo' z l s).d i)
              have AD := add_any Wx (R.hl.of_block (k1.block bh (by omega) (by simp; omega))) (R.rl.of_block (k1.block bl (by omega) (by simp; omega))) hlt hn k4 (by rw [e1]; exact hddl) (by omega) (by omega) (by omega) (by omega)
              have HF2 := (show Hid _ from (⟨k1, k2, k4⟩ : _ ∧ _ ∧ _))
              clear k1 k2 k3 k4 R hdd h1 h2 hcs hA ltl ctl y0 y1 y2 hbl hbx v0 v5 v7 v14 v15 hc2 hc3 hf2 hf3 cr zr
              refine AD.mono ?_
              intro e w6 A6
              obtain ⟨R, _⟩ := HH.out
              obtain ⟨k1, k2, k4⟩ := HF2.out
              have L6 := R.step (by omega) ⟨by omega, by omega, by omega⟩ ⟨by omega, by omega, by omega⟩ _ _ k1 k2 k4 (by rw [e3, e2]; simp) (by omega) A6
              obtain ⟨v, rfl⟩ := A6.ret
              have HL6 := (show Hid _ from L6)
              clear L6 A6 k1 k2 k4 R HF2 AD HH e1 e2 e3
              go_wp2_with fail
              go_roundw
              case rel => exact ⟨i + 1, by omega, by go_num, _, _, HL6.out⟩
              case measure => simp [intOf]; omega
            | false =>
              rw [h1] at y2
              rw [h2] at y1
              have HF := (show Hid _ from (⟨hlt, h2, h1⟩ : _ ∧ _ ∧ _))
              clear h1 h2
              go_wp2_with fail
              obtain ⟨R, hdd⟩ := HH.out
              obtain ⟨_, h2, h1⟩ := HF.out
              generalize hcs : ((((rq0.setIfInBounds 0 (.pointer (some ⟨w.heap.size, 0, none⟩))).setIfInBounds 5 (.int .u8 (dd : Int))).setIfInBounds 7 (.bool false)).setIfInBounds 14 (.pointer (some ⟨wr.heap.size + 1 + 1, 0, none⟩))).setIfInBounds 15 (.int .u64 (i : Int)) = cs
              generalize hA : (Obj.cells #[.int .u8 (z i : Int), .bool false, .bool true] 60) = A
              generalize hO : (Obj.cells #[Value.int IntKind.u8 0, Value.string { data := #[] }, Value.string { data := #[] }, Value.int IntKind.u64 0, Value.int IntKind.u16 0, Value.int IntKind.u16 0, Value.int IntKind.i32 0, Value.pointer none, Value.pointer none, Value.pointer none, Value.pointer none, Value.pointer none, Value.pointer none, Value.pointer none, Value.pointer none, Value.pointer none, Value.pointer none, Value.int IntKind.u16 0, Value.int IntKind.u16 0, Value.int IntKind.i32 0, Value.pointer none, Value.pointer none, Value.pointer none, Value.pointer none, Value.pointer none, Value.pointer none, Value.pointer none, Value.pointer none, Value.pointer none, Value.pointer none, Value.pointer none, Value.pointer none, Value.bool false] 77) = O
              have k0 := body_of (i := i) (((((But.refl [] wr).alloc A).alloc (.cells cs 70)).alloc O)) (heap_mid wr.heap A _ O) (rq_cells w.heap.size dd false (some ⟨wr.heap.size + 1 + 1, 0, none⟩) i cs hcs.symm) R.rr (by omega)
              generalize (((wr.alloc A).alloc (.cells cs 70)).alloc O).setCell ⟨br, i, none⟩ (.pointer (some ⟨wr.heap.size + 1, 0, none⟩)) = Wx at k0 ⊢
              obtain ⟨k1, k2, k3⟩ := k0
              have e1 : (its n m lo' z l s).d i = dd := hdd
              have e2 : (its n m lo' z l s).l i = false := h2
              have e3 : (its n m lo' z l s).s i = true := h1
              have k4 : Rq Wx (wr.heap.size + 1) w.heap.size ((its n m lo' z l s).d i) ((its n m lo' z l s).l i) (some ⟨wr.heap.size + 1 + 1, 0, none⟩) := by rw [e1, e2]; exact k3
              have ltl := (its n m lo' z l s).lt_le i
              have ctl := (its n m lo' z l s).ct_le i ((its n m lo' z l s).d i)
              have AD := add_any Wx (R.hl.of_block (k1.block bh (by omega) (by simp; omega))) (R.rl.of_block (k1.block bl (by omega) (by simp; omega))) hlt hn k4 (by rw [e1]; exact hddl) (by omega) (by omega) (by omega) (by omega)
              have HF2 := (show Hid _ from (⟨k1, k2, k4⟩ : _ ∧ _ ∧ _))
              clear k1 k2 k3 k4 R hdd h1 h2 hcs hA ltl ctl y0 y1 y2 hbl hbx v0 v5 v7 v14 v15 hc2 hc3 hf2 hf3 cr zr
              refine AD.mono ?_
              intro e w6 A6
              obtain ⟨R, _⟩ := HH.out
              obtain ⟨k1, k2, k4⟩ := HF2.out
              have L6 := R.step (by omega) ⟨by omega, by omega, by omega⟩ ⟨by omega, by omega, by omega⟩ _ _ k1 k2 k4 (by rw [e3, e2]; simp) (by omega) A6
              obtain ⟨v, rfl⟩ := A6.ret
              have HL6 := (show Hid _ from L6)
              clear L6 A6 k1 k2 k4 R HF2 AD HH e1 e2 e3
              go_wp2_with fail
              go_roundw
              case rel => exact ⟨i + 1, by omega, by go_num, _, _, HL6.out⟩
              case measure => simp [intOf]; omega
          | false =>
            cases h2 : l i with
            | true =>
              rw [h1] at y2
              rw [h2] at y1
              have HF := (show Hid _ from (⟨hlt, h2, h1⟩ : _ ∧ _ ∧ _))
              clear h1 h2
              go_wp2_with fail
              obtain ⟨R, hdd⟩ := HH.out
              obtain ⟨_, h2, h1⟩ := HF.out
              generalize hcs : (((rq0.setIfInBounds 0 (.pointer (some ⟨w.heap.size, 0, none⟩))).setIfInBounds 5 (.int .u8 (dd : Int))).setIfInBounds 7 (.bool true)).setIfInBounds 15 (.int .u64 (i : Int)) = cs
              generalize hA : (Obj.cells #[.int .u8 (z i : Int), .bool true, .bool false] 60) = A
              have k0 := body_of2 (i := i) (A := A) (rq_cells' w.heap.size dd true i cs hcs.symm) R.rr (.pointer (some ⟨wr.heap.size + 1, 0, none⟩))
              generalize (((wr.setCell ⟨br, i, none⟩ (.pointer (some ⟨wr.heap.size + 1, 0, none⟩))).alloc A).alloc (.cells cs 70)) = Wx at k0 ⊢
              obtain ⟨k1, k2, k3⟩ := k0
              have e1 : (its n m lo' z l s).d i = dd := hdd
              have e2 : (its n m lo' z l s).l i = true := h2
              have e3 : (its n m lo' z l s).s i = false := h1
              have k4 : Rq Wx (wr.heap.size + 1) w.heap.size ((its n m lo' z l s).d i) ((its n m lo' z l s).l i) none := by rw [e1, e2]; exact k3
              have ltl := (its n m lo' z l s).lt_le i
              have ctl := (its n m lo' z l s).ct_le i ((its n m lo' z l s).d i)
              have AD := add_any Wx (R.hl.of_block (k1.block bh (by omega) (by simp; omega))) (R.rl.of_block (k1.block bl (by omega) (by simp; omega))) hlt hn k4 (by rw [e1]; exact hddl) (by omega) (by omega) (by omega) (by omega)
              have HF2 := (show Hid _ from (⟨k1, k2, k4⟩ : _ ∧ _ ∧ _))
              clear k1 k2 k3 k4 R hdd h1 h2 hcs hA ltl ctl y0 y1 y2 hbl hbx v0 v5 v7 v14 v15 hc2 hc3 hf2 hf3 cr zr
              refine AD.mono ?_
              intro e w6 A6
              obtain ⟨R, _⟩ := HH.out
              obtain ⟨k1, k2, k4⟩ := HF2.out
              have L6 := R.step (by omega) ⟨by omega, by omega, by omega⟩ ⟨by omega, by omega, by omega⟩ _ _ k1 k2 k4 (by rw [e3, e2]; simp) (by omega) A6
              obtain ⟨v, rfl⟩ := A6.ret
              have HL6 := (show Hid _ from L6)
              clear L6 A6 k1 k2 k4 R HF2 AD HH e1 e2 e3
              go_wp2_with fail
              go_roundw
              case rel => exact ⟨i + 1, by omega, by go_num, _, _, HL6.out⟩
              case measure => simp [intOf]; omega
            | false =>
              rw [h1] at y2
              rw [h2] at y1
              have HF := (show Hid _ from (⟨hlt, h2, h1⟩ : _ ∧ _ ∧ _))
              clear h1 h2
              go_wp2_with fail
              obtain ⟨R, hdd⟩ := HH.out
              obtain ⟨_, h2, h1⟩ := HF.out
              generalize hcs : (((rq0.setIfInBounds 0 (.pointer (some ⟨w.heap.size, 0, none⟩))).setIfInBounds 5 (.int .u8 (dd : Int))).setIfInBounds 7 (.bool false)).setIfInBounds 15 (.int .u64 (i : Int)) = cs
              generalize hA : (Obj.cells #[.int .u8 (z i : Int), .bool false, .bool false] 60) = A
              have k0 := body_of2 (i := i) (A := A) (rq_cells' w.heap.size dd false i cs hcs.symm) R.rr (.pointer (some ⟨wr.heap.size + 1, 0, none⟩))
              generalize (((wr.setCell ⟨br, i, none⟩ (.pointer (some ⟨wr.heap.size + 1, 0, none⟩))).alloc A).alloc (.cells cs 70)) = Wx at k0 ⊢
              obtain ⟨k1, k2, k3⟩ := k0
              have e1 : (its n m lo' z l s).d i = dd := hdd
              have e2 : (its n m lo' z l s).l i = false := h2
              have e3 : (its n m lo' z l s).s i = false := h1
              have k4 : Rq Wx (wr.heap.size + 1) w.heap.size ((its n m lo' z l s).d i) ((its n m lo' z l s).l i) none := by rw [e1, e2]; exact k3
              have ltl := (its n m lo' z l s).lt_le i
              have ctl := (its n m lo' z l s).ct_le i ((its n m lo' z l s).d i)
              have AD := add_any Wx (R.hl.of_block (k1.block bh (by omega) (by simp; omega))) (R.rl.of_block (k1.block bl (by omega) (by simp; omega))) hlt hn k4 (by rw [e1]; exact hddl) (by omega) (by omega) (by omega) (by omega)
              have HF2 := (show Hid _ from (⟨k1, k2, k4⟩ : _ ∧ _ ∧ _))
              clear k1 k2 k3 k4 R hdd h1 h2 hcs hA ltl ctl y0 y1 y2 hbl hbx v0 v5 v7 v14 v15 hc2 hc3 hf2 hf3 cr zr
              refine AD.mono ?_
              intro e w6 A6
              obtain ⟨R, _⟩ := HH.out
              obtain ⟨k1, k2, k4⟩ := HF2.out
              have L6 := R.step (by omega) ⟨by omega, by omega, by omega⟩ ⟨by omega, by omega, by omega⟩ _ _ k1 k2 k4 (by rw [e3, e2]; simp) (by omega) A6
              obtain ⟨v, rfl⟩ := A6.ret
              have HL6 := (show Hid _ from L6)
              clear L6 A6 k1 k2 k4 R HF2 AD HH e1 e2 e3
              go_wp2_with fail
              go_roundw
              case rel => exact ⟨i + 1, by omega, by go_num, _, _, HL6.out⟩
              case measure => simp [intOf]; omega
        · obtain rfl : n = i := by omega
          obtain ⟨w5, rfl⟩ : ∃ w5, w5 = wr := ⟨wr, rfl⟩
          obtain ⟨hss0, hD0, hDb, hW0⟩ := HD0.out
          have hws := R.but.size
          have hss5 := (R.but.block w.heap.size (by omega) (by simp; omega)).trans hss0
          have hD5 : DurIs w5 a (durs m 3) := by
            refine ⟨fun j hj => ?_, hD0.le, hD0.len⟩
            obtain ⟨b, e1, e2⟩ := hD0.at_ j hj
            have := hDb b e1
            exact ⟨b, e1, (World.cell?_of_block (w := W0) (R.but.block b (by omega) (by simp; omega))).trans e2⟩
          have hb5 : But [] w w5 := ⟨R.but.os.trans hW0.os, R.but.tape.trans hW0.tape, R.but.output.trans hW0.output, by omega, fun k hk _ => (R.but.block k (by omega) (by simp; omega)).trans (hW0.block k hk (by simp))⟩
          have h0 : WS3 (w5.alloc (.cells #[.int .i64 0, .int .i64 0, .int .i64 0, .int .i64 0] 34)) (its n m lo' z l s) w5.heap.size (w5.heap.size + 1) q 0 (.slice none 0 0) (w5.alloc (.cells #[.int .i64 0, .int .i64 0, .int .i64 0, .int .i64 0] 34)) := WS3.start _ _ _
          have H5 := (show Hid _ from (⟨R, hss5, hD5, hDb, hb5⟩ : _ ∧ _ ∧ _ ∧ _ ∧ _))
          have r5 : w5.rowIs br 41 n (ptrs q n) := R.rr
          clear HD0 hss0 hD0 hDb hW0 R hss5 hD5 hb5 hb55 hx55 hlt hi
          go_wp2_with fail
          obtain ⟨w6, hw6⟩ : ∃ w6, w6 = (w5.alloc (.cells #[.int .i64 0, .int .i64 0, .int .i64 0, .int .i64 0] 34)) := ⟨_, rfl⟩
          rw [← hw6] at h0
          rw [← hw6]
          have r6 : w6.rowIs br 41 n (ptrs q n) := by rw [hw6]; exact r5.alloc _
          have b6 : But [] w5 w6 := by rw [hw6]; exact (But.refl _ _).alloc _
          have s6 : w6.heap.size = w5.heap.size + 1 := by rw [hw6]; simp
          obtain ⟨bw, hbw⟩ : ∃ bw, bw = w5.heap.size := ⟨_, rfl⟩
          rw [← hbw] at h0 s6
          rw [← hbw]
          have cells6 : ∀ j, j < n → ∃ b off, a0 = some ⟨b, off, none⟩ ∧ b < w.heap.size ∧ w6.cell? ⟨b, off + j * 3, none⟩ = some (.int .u8 (z j : Int)) ∧ w6.cell? ⟨b, off + j * 3 + 1, none⟩ = some (.bool (l j)) ∧ w6.cell? ⟨b, off + j * 3 + 2, none⟩ = some (.bool (s j)) := by
            intro j hj
            obtain ⟨b, off, e1, e2, x0, x1, x2⟩ := hcell j hj
            have eb : w6.heap[b]? = w.heap[b]? := (b6.block b (by have := H5.out.2.2.2.2.size; omega) (by simp)).trans (H5.out.2.2.2.2.block b e2 (by simp))
            exact ⟨b, off, e1, e2, (World.cell?_of_block (w := w) eb).trans x0, (World.cell?_of_block (w := w) eb).trans x1, (World.cell?_of_block (w := w) eb).trans x2⟩
          have hww5 := H5.out.2.2.2.2.size
          have HB6 := (show Hid _ from (⟨b6, hw6, hbw⟩ : _ ∧ _ ∧ _))
          have bw5 : bw ≤ w5.heap.size ∧ w5.heap.size ≤ bw := by omega
          clear hcell r5 b6 hw6 hbw
          go_loopw [107, 15, 16, 17] (fun k v lf lt wr => ∃ i : Nat, i ≤ n ∧ k = .int .i64 i ∧ lf = .bool ((its n m lo' z l s).left i) ∧ lt = .int .i64 ((its n m lo' z l s).lit i : Int) ∧ WS3 w6 (its n m lo' z l s) bw (bw + 1) q i v wr) (fun k _ _ _ _ => n - (intOf k).toNat)
          case atStart => exact ⟨0, Nat.zero_le _, rfl, rfl, rfl, h0⟩
          case round =>
            clear h0
            obtain ⟨i, hi, rfl, rfl, rfl, R⟩ := hrel
            obtain ⟨av, cv, rfl, hcv1, hcv2⟩ := R.own.shape
            by_cases hlt : i < n
            · obtain ⟨b, off, rfl, hb0, x0, x1, x2⟩ := cells6 i hlt
              have eb : wr.heap[b]? = w6.heap[b]? := R.but.block b (by omega) (by simp; omega)
              have y0 := (World.cell?_of_block (w := w6) (a := ⟨b, off + i * 3, none⟩) eb).trans x0
              have y1 := (World.cell?_of_block (w := w6) (a := ⟨b, off + i * 3 + 1, none⟩) eb).trans x1
              have y2 := (World.cell?_of_block (w := w6) (a := ⟨b, off + i * 3 + 2, none⟩) eb).trans x2
              have hzi := hz i hlt
              have hlti : (i : Int) < n := by omega
              obtain ⟨dd, hdd⟩ : ∃ dd : Nat, 1 + z i % 3 = dd := ⟨_, rfl⟩
              have hdi : (1 : Int) + (z i : Int) % 3 = (dd : Int) := by omega
              have hddl : dd < 4 := by omega
              have hdd1 : 1 ≤ dd := by omega
              have HH := (show Hid _ from (⟨R, hdd⟩ : _ ∧ _))
              clear cells6 x0 x1 x2 eb R hdd
              go_upto_region 33 with fail
              go_cut [22] (fun s22 wx => s22 = .bool ((its n m lo' z l s).inn i) ∧ wx = wr.alloc (.cells #[.int .u8 (z i : Int), .bool (l i), .bool (s i)] 60))
              case first =>
                have hd3 : dd = 1 ∨ dd = 2 ∨ dd = 3 := by omega
                rcases hd3 with rfl | rfl | rfl
                · have hI := inn_bit n m lo' z l s i 0 (by have := HH.out.2; omega)
                  by_cases hb : bitOf m 0 = true
                  · have hbi : ¬ bits .and .u8 (m : Int) 1 = 0 := by simpa [bitOf] using hb
                    rw [hb] at hI
                    have HI := (show Hid _ from hI)
                    clear hI hb HH HB6 H5
                    go_wp2_with fail
                    go_meet
                    case rel => exact ⟨by rw [HI.out] <;> simp [hbi], by trivial⟩
                  · have hbi : bits .and .u8 (m : Int) 1 = 0 := by simpa [bitOf] using hb
                    have hb' : bitOf m 0 = false := by simpa using hb
                    rw [hb'] at hI
                    have HI := (show Hid _ from hI)
                    clear hI hb hb' HH HB6 H5
                    go_wp2_with fail
                    go_meet
                    case rel => exact ⟨by rw [HI.out] <;> simp [hbi], by trivial⟩
                · have hI := inn_bit n m lo' z l s i 1 (by have := HH.out.2; omega)
                  by_cases hb : bitOf m 1 = true
                  · have hbi : ¬ bits .and .u8 (m : Int) 2 = 0 := by simpa [bitOf] using hb
                    rw [hb] at hI
                    have HI := (show Hid _ from hI)
                    clear hI hb HH HB6 H5
                    go_wp2_with fail
                    go_meet
                    case rel => exact ⟨by rw [HI.out] <;> simp [hbi], by trivial⟩
                  · have hbi : bits .and .u8 (m : Int) 2 = 0 := by simpa [bitOf] using hb
                    have hb' : bitOf m 1 = false := by simpa using hb
                    rw [hb'] at hI
                    have HI := (show Hid _ from hI)
                    clear hI hb hb' HH HB6 H5
                    go_wp2_with fail
                    go_meet
                    case rel => exact ⟨by rw [HI.out] <;> simp [hbi], by trivial⟩
                · have hI := inn_bit n m lo' z l s i 2 (by have := HH.out.2; omega)
                  by_cases hb : bitOf m 2 = true
                  · have hbi : ¬ bits .and .u8 (m : Int) 4 = 0 := by simpa [bitOf] using hb
                    rw [hb] at hI
                    have HI := (show Hid _ from hI)
                    clear hI hb HH HB6 H5
                    go_wp2_with fail
                    go_meet
                    case rel => exact ⟨by rw [HI.out] <;> simp [hbi], by trivial⟩
                  · have hbi : bits .and .u8 (m : Int) 4 = 0 := by simpa [bitOf] using hb
                    have hb' : bitOf m 2 = false := by simpa using hb
                    rw [hb'] at hI
                    have HI := (show Hid _ from hI)
                    clear hI hb hb' HH HB6 H5
                    go_wp2_with fail
                    go_meet
                    case rel => exact ⟨by rw [HI.out] <;> simp [hbi], by trivial⟩
              case rest =>
                obtain ⟨rfl, rfl⟩ := hcut
                have nbw : wr.heap.size ≠ bw := by have := HH.out.1.but.size; omega
                have w60 : (wr.alloc (.cells #[.int .u8 (z i : Int), .bool (l i), .bool (s i)] 60)).cell? ⟨wr.heap.size, 1, none⟩ = some (.bool (l i)) := by rw [World.cell?_alloc_new]; rfl
                have w61 : (wr.alloc (.cells #[.int .u8 (z i : Int), .bool (l i), .bool (s i)] 60)).cell? ⟨wr.heap.size, 2, none⟩ = some (.bool (s i)) := by rw [World.cell?_alloc_new]; rfl
                have hbA : But [] wr (wr.alloc (.cells #[.int .u8 (z i : Int), .bool (l i), .bool (s i)] 60)) := (But.refl _ _).alloc _
                have hsA : (wr.alloc (.cells #[.int .u8 (z i : Int), .bool (l i), .bool (s i)] 60)).heap.size = wr.heap.size + 1 := by simp
                have KD : (its n m lo' z l s).drp i = true → Hid (WS3 w6 (its n m lo' z l s) bw (bw + 1) q (i + 1) (.slice av (((its n m lo' z l s).kept i).map (fun j => some (⟨q j, 0, none⟩ : Addr))).length cv) (wr.alloc (.cells #[.int .u8 (z i : Int), .bool (l i), .bool (s i)] 60))) := fun h => HH.out.1.drop h _
                generalize wr.alloc (.cells #[.int .u8 (z i : Int), .bool (l i), .bool (s i)] 60) = W at w60 w61 hbA hsA KD ⊢
                obtain ⟨R, hdd⟩ := HH.out
                have edd : (its n m lo' z l s).d i = dd := hdd
                have rowW := rowIs_but hbA R.row
                have cW := rowW.cell hddl
                have zW := rowW.frozen dd
                have ownW : OwnP (bw + 1) (.slice av (((its n m lo' z l s).kept i).map (fun j => some (⟨q j, 0, none⟩ : Addr))).length cv) (((its n m lo' z l s).kept i).map (fun j => some ⟨q j, 0, none⟩)) W := R.own.of_block (fun g hg => hbA.block g (World.ownsRow.lt R.own g hg).2 (by simp))
                have crW : W.cell? ⟨br, i, none⟩ = some (.pointer (some ⟨q i, 0, none⟩)) := by
                  have h1 := r6.cell hlt
                  simp only [ptrs, if_pos hlt] at h1
                  exact (World.cell?_of_block (w := wr) (hbA.block br (by have := R.but.size; omega) (by simp))).trans ((World.cell?_of_block (w := w6) (R.but.block br (by omega) (by simp; omega))).trans h1)
                have hwr := R.but.size
                have ownc : OwnP (bw + 1) (.slice av (((its n m lo' z l s).kept i).map (fun j => some (⟨q j, 0, none⟩ : Addr))).length cv) (((its n m lo' z l s).kept i).map (fun j => some ⟨q j, 0, none⟩)) (W.setCell ⟨bw, dd, none⟩ (.int .i64 (((its n m lo' z l s).las i dd : Int) + 1))) := ownsRow_setCell_below (a := ⟨bw, dd, none⟩) ownW (by show bw < bw + 1; omega) _
                have KK : (its n m lo' z l s).drp i = false → ∀ v' w', App (bw + 1) (.slice av (((its n m lo' z l s).kept i).map (fun j => some (⟨q j, 0, none⟩ : Addr))).length cv) (((its n m lo' z l s).kept i).map (fun j => some ⟨q j, 0, none⟩)) (some ⟨q i, 0, none⟩) (W.setCell ⟨bw, dd, none⟩ (.int .i64 (((its n m lo' z l s).las i dd : Int) + 1))) v' w' →
                    Hid (WS3 w6 (its n m lo' z l s) bw (bw + 1) q (i + 1) v' w') := by
                  intro hdrp v' w' A
                  refine WS3.keep R (by omega) (by omega) hdrp ((hbA.mono (by simp)).set (by simp) _ _) ownc ?_ A
                  refine (rowW.set dd _).congr ?_
                  intro c _
                  rw [edd]
                  by_cases e : c = dd <;> simp [e]
                have lasB := (its n m lo' z l s).las_le i dd
                have ctB := (its n m lo' z l s).ct_le i dd
                have litB := (its n m lo' z l s).lit_le i
                have ltB := (its n m lo' z l s).lt_le i
                have klB := (its n m lo' z l s).kept_len i
                have laB : (its n m lo' z l s).las i dd ≤ 1024 := by omega
                have liB : (its n m lo' z l s).lit i ≤ 1024 := by omega
                have bwW : bw < W.heap.size := by omega
                have HED := (show Hid _ from edd)
                clear rowW ownW R hdd HH lasB ctB litB ltB hbA r6 y0 y1 y2 HB6 H5 hsA edd
                have nbw2 : br ≠ bw := by omega
                have wrW : wr.heap.size ≠ br := by omega
                cases hI : (its n m lo' z l s).inn i with
                | false =>
                  have hdrp : (its n m lo' z l s).drp i = false := by simp [Its.drp, hI]
                  cases hl' : (its n m lo' z l s).l i with
                  | true =>
                    have hl2 : l i = true := hl'
                    rw [hl2] at w60
                    have K : ∀ v' w', App (bw + 1) (.slice av (((its n m lo' z l s).kept i).map (fun j => some (⟨q j, 0, none⟩ : Addr))).length cv) (((its n m lo' z l s).kept i).map (fun j => some ⟨q j, 0, none⟩)) (some ⟨q i, 0, none⟩) (W.setCell ⟨bw, dd, none⟩ (.int .i64 (((its n m lo' z l s).las i dd : Int) + 1))) v' w' →
                        Hid (WS3 w6 (its n m lo' z l s) bw (bw + 1) q (i + 1) v' w') := by
                      intro v' w' A
                      exact KK hdrp v' w' A
                    obtain ⟨p1, _, _, p4⟩ := lit_keep hdrp
                    have HP := (show Hid _ from (⟨p1, p4⟩ : _ ∧ _))
                    clear p1 p4 KK
                    go_wp2_with (at_builtin; refine wp_ptr (W.setCell ⟨bw, dd, none⟩ (.int .i64 (((its n m lo' z l s).las i dd : Int) + 1))) rfl _ _ rfl ownc (by simp; omega) (by simp [World.setCell]; omega) (some ⟨q i, 0, none⟩) _ rfl W.heap.size (by simp [World.setCell]) rfl rfl ?_; intro v' w' A'; obtain ⟨a', n', c2, rfl⟩ := A'.own.shape'; have HK := K _ w' A'; clear A')
                    go_roundw
                    case rel =>
                      obtain ⟨p1, p4⟩ := HP.out
                      exact ⟨i + 1, by omega, by go_num, by rw [p4, hI]; simp, by rw [p1, hl']; simp, HK.out⟩
                    case measure => simp [intOf]; omega
                  | false =>
                    have hl2 : l i = false := hl'
                    rw [hl2] at w60
                    have K : ∀ v' w', App (bw + 1) (.slice av (((its n m lo' z l s).kept i).map (fun j => some (⟨q j, 0, none⟩ : Addr))).length cv) (((its n m lo' z l s).kept i).map (fun j => some ⟨q j, 0, none⟩)) (some ⟨q i, 0, none⟩) (W.setCell ⟨bw, dd, none⟩ (.int .i64 (((its n m lo' z l s).las i dd : Int) + 1))) v' w' →
                        Hid (WS3 w6 (its n m lo' z l s) bw (bw + 1) q (i + 1) v' w') := by
                      intro v' w' A
                      exact KK hdrp v' w' A
                    obtain ⟨p1, _, _, p4⟩ := lit_keep hdrp
                    have HP := (show Hid _ from (⟨p1, p4⟩ : _ ∧ _))
                    clear p1 p4 KK
                    go_wp2_with (at_builtin; refine wp_ptr (W.setCell ⟨bw, dd, none⟩ (.int .i64 (((its n m lo' z l s).las i dd : Int) + 1))) rfl _ _ rfl ownc (by simp; omega) (by simp [World.setCell]; omega) (some ⟨q i, 0, none⟩) _ rfl W.heap.size (by simp [World.setCell]) rfl rfl ?_; intro v' w' A'; obtain ⟨a', n', c2, rfl⟩ := A'.own.shape'; have HK := K _ w' A'; clear A')
                    go_roundw
                    case rel =>
                      obtain ⟨p1, p4⟩ := HP.out
                      exact ⟨i + 1, by omega, by go_num, by rw [p4, hI]; simp, by rw [p1, hl']; simp, HK.out⟩
                    case measure => simp [intOf]; omega
                | true =>
                  cases lo with
                  | true =>
                    have hlo : (its n m lo' z l s).lo = true := hlo'.out
                    cases hl' : (its n m lo' z l s).l i with
                    | true =>
                      have hl2 : l i = true := hl'
                      have hdrp : (its n m lo' z l s).drp i = true := by simp [Its.drp, hI, hlo, hl']
                      clear hlo
                      rw [hl2] at w60
                      obtain ⟨p1, _, _, p4⟩ := lit_drop hdrp
                      have HK : Hid (WS3 w6 (its n m lo' z l s) bw (bw + 1) q (i + 1) (.slice av (((its n m lo' z l s).kept i).map (fun j => some (⟨q j, 0, none⟩ : Addr))).length cv) W) := KD hdrp
                      have HP := (show Hid _ from (⟨p1, p4⟩ : _ ∧ _))
                      clear p1 p4 KK KD
                      go_wp2_with fail
                      go_roundw
                      case rel =>
                        obtain ⟨p1, p4⟩ := HP.out
                        exact ⟨i + 1, by omega, by go_num, by rw [p4], by rw [p1], HK.out⟩
                      case measure => simp [intOf]; omega
                    | false =>
                      have hl2 : l i = false := hl'
                      have hdrp : (its n m lo' z l s).drp i = false := by simp [Its.drp, hI, hlo, hl']
                      clear hlo
                      rw [hl2] at w60
                      have K : ∀ v' w', App (bw + 1) (.slice av (((its n m lo' z l s).kept i).map (fun j => some (⟨q j, 0, none⟩ : Addr))).length cv) (((its n m lo' z l s).kept i).map (fun j => some ⟨q j, 0, none⟩)) (some ⟨q i, 0, none⟩) (W.setCell ⟨bw, dd, none⟩ (.int .i64 (((its n m lo' z l s).las i dd : Int) + 1))) v' w' →
                          Hid (WS3 w6 (its n m lo' z l s) bw (bw + 1) q (i + 1) v' w') := by
                        intro v' w' A
                        exact KK hdrp v' w' A
                      obtain ⟨p1, _, _, p4⟩ := lit_keep hdrp
                      have HP := (show Hid _ from (⟨p1, p4⟩ : _ ∧ _))
                      clear p1 p4 KK
                      go_wp2_with (at_builtin; refine wp_ptr (W.setCell ⟨bw, dd, none⟩ (.int .i64 (((its n m lo' z l s).las i dd : Int) + 1))) rfl _ _ rfl ownc (by simp; omega) (by simp [World.setCell]; omega) (some ⟨q i, 0, none⟩) _ rfl W.heap.size (by simp [World.setCell]) rfl rfl ?_; intro v' w' A'; obtain ⟨a', n', c2, rfl⟩ := A'.own.shape'; have HK := K _ w' A'; clear A')
                      go_roundw
                      case rel =>
                        obtain ⟨p1, p4⟩ := HP.out
                        exact ⟨i + 1, by omega, by go_num, by rw [p4, hI]; simp, by rw [p1, hl']; simp, HK.out⟩
                      case measure => simp [intOf]; omega
                  | false =>
                    have hlo : (its n m lo' z l s).lo = false := hlo'.out
                    cases hl' : (its n m lo' z l s).l i with
                    | true =>
                      have hl2 : l i = true := hl'
                      have hdrp : (its n m lo' z l s).drp i = false := by simp [Its.drp, hI, hlo, hl']
                      clear hlo
                      rw [hl2] at w60
                      have K : ∀ v' w', App (bw + 1) (.slice av (((its n m lo' z l s).kept i).map (fun j => some (⟨q j, 0, none⟩ : Addr))).length cv) (((its n m lo' z l s).kept i).map (fun j => some ⟨q j, 0, none⟩)) (some ⟨q i, 0, none⟩) (W.setCell ⟨bw, dd, none⟩ (.int .i64 (((its n m lo' z l s).las i dd : Int) + 1))) v' w' →
                          Hid (WS3 w6 (its n m lo' z l s) bw (bw + 1) q (i + 1) v' w') := by
                        intro v' w' A
                        exact KK hdrp v' w' A
                      obtain ⟨p1, _, _, p4⟩ := lit_keep hdrp
                      have HP := (show Hid _ from (⟨p1, p4⟩ : _ ∧ _))
                      clear p1 p4 KK
                      go_wp2_with (at_builtin; refine wp_ptr (W.setCell ⟨bw, dd, none⟩ (.int .i64 (((its n m lo' z l s).las i dd : Int) + 1))) rfl _ _ rfl ownc (by simp; omega) (by simp [World.setCell]; omega) (some ⟨q i, 0, none⟩) _ rfl W.heap.size (by simp [World.setCell]) rfl rfl ?_; intro v' w' A'; obtain ⟨a', n', c2, rfl⟩ := A'.own.shape'; have HK := K _ w' A'; clear A')
                      go_roundw
                      case rel =>
                        obtain ⟨p1, p4⟩ := HP.out
                        exact ⟨i + 1, by omega, by go_num, by rw [p4, hI]; simp, by rw [p1, hl']; simp, HK.out⟩
                      case measure => simp [intOf]; omega
                    | false =>
                      have hl2 : l i = false := hl'
                      rw [hl2] at w60
                      cases hs' : (its n m lo' z l s).s i with
                      | true =>
                        have hs2 : s i = true := hs'
                        have hdrp : (its n m lo' z l s).drp i = false := by simp [Its.drp, hI, hlo, hl', hs']
                        clear hlo
                        rw [hs2] at w61
                        have K : ∀ v' w', App (bw + 1) (.slice av (((its n m lo' z l s).kept i).map (fun j => some (⟨q j, 0, none⟩ : Addr))).length cv) (((its n m lo' z l s).kept i).map (fun j => some ⟨q j, 0, none⟩)) (some ⟨q i, 0, none⟩) (W.setCell ⟨bw, dd, none⟩ (.int .i64 (((its n m lo' z l s).las i dd : Int) + 1))) v' w' →
                            Hid (WS3 w6 (its n m lo' z l s) bw (bw + 1) q (i + 1) v' w') := by
                          intro v' w' A
                          exact KK hdrp v' w' A
                        obtain ⟨p1, _, _, p4⟩ := lit_keep hdrp
                        have HP := (show Hid _ from (⟨p1, p4⟩ : _ ∧ _))
                        clear p1 p4 KK
                        go_wp2_with (at_builtin; refine wp_ptr (W.setCell ⟨bw, dd, none⟩ (.int .i64 (((its n m lo' z l s).las i dd : Int) + 1))) rfl _ _ rfl ownc (by simp; omega) (by simp [World.setCell]; omega) (some ⟨q i, 0, none⟩) _ rfl W.heap.size (by simp [World.setCell]) rfl rfl ?_; intro v' w' A'; obtain ⟨a', n', c2, rfl⟩ := A'.own.shape'; have HK := K _ w' A'; clear A')
                        go_roundw
                        case rel =>
                          obtain ⟨p1, p4⟩ := HP.out
                          exact ⟨i + 1, by omega, by go_num, by rw [p4, hI]; simp, by rw [p1, hl']; simp, HK.out⟩
                        case measure => simp [intOf]; omega
                      | false =>
                        have hs2 : s i = false := hs'
                        have hdrp : (its n m lo' z l s).drp i = true := by simp [Its.drp, hI, hlo, hl', hs']
                        clear hlo
                        rw [hs2] at w61
                        obtain ⟨p1, _, _, p4⟩ := lit_drop hdrp
                        have HK : Hid (WS3 w6 (its n m lo' z l s) bw (bw + 1) q (i + 1) (.slice av (((its n m lo' z l s).kept i).map (fun j => some (⟨q j, 0, none⟩ : Addr))).length cv) W) := KD hdrp
                        have HP := (show Hid _ from (⟨p1, p4⟩ : _ ∧ _))
                        clear p1 p4 KK KD
                        go_wp2_with fail
                        go_roundw
                        case rel =>
                          obtain ⟨p1, p4⟩ := HP.out
                          exact ⟨i + 1, by omega, by go_num, by rw [p4], by rw [p1], HK.out⟩
                        case measure => simp [intOf]; omega
            · obtain rfl : n = i := by omega
              obtain ⟨w7, rfl⟩ : ∃ w7, w7 = wr := ⟨wr, rfl⟩
              obtain ⟨L5, hss5, hD5, hDb, hb5⟩ := H5.out
              obtain ⟨b6, hw6, hbw⟩ := HB6.out
              have hs7 := R.but.size
              have hs5 := L5.but.size
              have e7 : ∀ k, k < bw → w7.heap[k]? = w5.heap[k]? := fun k hk => (R.but.block k (by omega) (by simp; omega)).trans (b6.block k (by omega) (by simp))
              have Pn : Pre (its n m lo' z l s) w7.heap.size bh w.heap.size bl q st a w7 := by
                refine { hl := L5.hl.of_block (e7 bh (by omega)), row := (L5.rl.of_block (e7 bl (by omega))).congr (fun j hj => by simp only [ptrs]; rw [if_pos (show j < n from hj)]), rq := fun j hj => (L5.rq j hj).of_block (e7 (q j) (by have := (L5.ql j hj).2; omega)), stn := L5.stn, sp := sp_new ((e7 w.heap.size (by omega)).trans hss5), dur := ?_, durB := ?_, hB := Nat.le_refl _, lts := ⟨by omega, by omega, by omega⟩, nes := ⟨by omega, by omega, by omega⟩, qs := ?_, inj := ?_, dd := fun j _ => by show 1 + z j % 3 < 4; omega, hn := hn }
                · refine ⟨fun j hj => ?_, hD5.le, hD5.len⟩
                  obtain ⟨b, e1, e2⟩ := hD5.at_ j hj
                  have := hDb b e1
                  exact ⟨b, e1, (World.cell?_of_block (w := w5) (e7 b (by omega))).trans e2⟩
                · intro b e1
                  have := hDb b e1
                  exact ⟨by omega, by omega, by omega, by omega, fun j hj => by have := (L5.ql j hj).1; omega⟩
                · intro j hj
                  have := L5.ql j hj
                  exact ⟨by omega, by omega, by omega, by omega⟩
                · intro x y hx hy e
                  rcases Nat.lt_trichotomy x y with c | c | c
                  · have := L5.qi x y c hy; omega
                  · exact c
                  · have := L5.qi y x c hx; omega
              have DA := drop_any c' w7 Pn
              rw [show (its n m lo' z l s).lo = lo from hlo'.out] at DA
              have HH := (show Hid _ from (⟨R, L5, hb5, b6, Pn⟩ : _ ∧ _ ∧ _ ∧ _ ∧ _))
              clear Pn R L5 hss5 hD5 hDb hb5 b6 hw6 hbw e7 H5 HB6 cells6 r6
              go_wp2_with fail
              refine DA.mono ?_
              rintro e w8 ⟨rfl, hb8, b', cap', H8, hk1, hk2, hcell8⟩
              simp only [its_n] at hb8 H8 hk1 hcell8 ⊢
              obtain ⟨R, L5, hb5, b6, Pn⟩ := HH.out
              have e8 : ∀ k, k < w7.heap.size → bw ≤ k → w8.heap[k]? = w7.heap[k]? := fun k hk hk2 => hb8.block k hk (by omega) (by omega) (by omega) (fun j hj => by have := (L5.ql j hj).2; omega)
              have row8 := R.row.of_block (e8 bw (by omega) (Nat.le_refl _))
              have want8 : ∀ j (h : j < ((its n m lo' z l s).kept n).length), ∃ g, av = some ⟨g, 0, none⟩ ∧ w8.cell? ⟨g, j, none⟩ = some (.pointer (some ⟨q (((its n m lo' z l s).kept n)[j]), 0, none⟩)) := by
                intro j hj
                rcases R.own.2 with ⟨_, h0⟩ | ⟨g, cap2, cur, hv, hbg, hg, _⟩
                · simp at h0; rw [h0] at hj; simp at hj
                · injection hv with e4 e5 e6
                  have hgl := (Array.getElem?_eq_some_iff.1 hg).1
                  refine ⟨g, e4, ?_⟩
                  have := World.ownsRow.cells R.own (g := g) (by rw [e4]; rfl) j (.pointer (some ⟨q (((its n m lo' z l s).kept n)[j]), 0, none⟩)) (by simp [pvals, hj])
                  rw [Lib.add_plain, Nat.zero_add] at this
                  exact (World.cell?_of_block (w := w7) (e8 g hgl (by omega))).trans this
              have HE : Hid (Below w.heap.size w w8) := by
                refine ⟨?_, ?_, ?_, by have := hb8.size; omega, fun k hk => ?_⟩
                · exact hb8.os.trans (R.but.os.trans (b6.os.trans hb5.os))
                · exact hb8.tape.trans (R.but.tape.trans (b6.tape.trans hb5.tape))
                · exact hb8.output.trans (R.but.output.trans (b6.output.trans hb5.output))
                · exact (hb8.block k (by omega) (by omega) (by omega) (by omega) (fun j hj => by have := (L5.ql j hj).1; omega)).trans ((R.but.block k (by omega) (by simp; omega)).trans ((b6.block k (by omega) (by simp)).trans (hb5.block k hk (by simp))))
              have c0 := H8.c0
              have c1 := H8.c1
              have d0 := H8.c2 0 (by omega)
              have d1 := H8.c2 1 (by omega)
              have d2 := H8.c2 2 (by omega)
              have d3 := H8.c2 3 (by omega)
              have c6 := H8.c6
              have c13 := H8.c13
              have x0 := row8.cell (i := 0) (by omega)
              have x1 := row8.cell (i := 1) (by omega)
              have x2 := row8.cell (i := 2) (by omega)
              have x3 := row8.cell (i := 3) (by omega)
              have HW := (show Hid _ from (⟨want8, hcell8⟩ : _ ∧ _))
              clear row8 want8 hcell8 H8 DA HH R L5 hb5 b6 Pn e8 hb8
              have hq34 := fun w => neq34 ((its n m lo' z l s).las n 0 : Int) ((its n m lo' z l s).las n 1 : Int) ((its n m lo' z l s).las n 2 : Int) ((its n m lo' z l s).las n 3 : Int) w
              have hqi := fun w => eqIn34 ((its n m lo' z l s).las n 0 : Int) ((its n m lo' z l s).las n 1 : Int) ((its n m lo' z l s).las n 2 : Int) ((its n m lo' z l s).las n 3 : Int) 9998 w
              have hq35 := eql35'
              have klB := (its n m lo' z l s).kept_len n
              have hcvl : ((its n m lo' z l s).kept n).length ≤ cv := by simpa using hcv1
              clear hcv1
              generalize (its n m lo' z l s).left n = lf
              generalize (its n m lo' z l s).lit n = lt at c1 ⊢
              go_wp2_with fail
              clear hq34 hqi
              simp only [List.length_map]
              generalize hkk : ((its n m lo' z l s).kept n).length = kk at c0 hk1 klB hcvl ⊢
              have HKK := (show Hid _ from hkk)
              clear hkk
              unfold maxLen at hcv2
              go_loopw [179] (fun i wr => ∃ j : Nat, j ≤ kk ∧ i = .int .i64 j ∧ ∃ mm, wr = w8.drewN mm) (fun i _ => kk - (intOf i).toNat)
              case atStart => exact ⟨0, Nat.zero_le _, rfl, 0, rfl⟩
              case round =>
                obtain ⟨j, hj, rfl, mm, rfl⟩ := hrel
                by_cases hlt' : j < kk
                · obtain ⟨want8, hcell8⟩ := HW.out
                  have hjl : j < ((its n m lo' z l s).kept n).length := by have := HKK.out; omega
                  obtain ⟨g, eg, cg⟩ := want8 j hjl
                  have cb := hcell8 j hjl
                  generalize q (((its n m lo' z l s).kept n)[j]) = qq at cg cb
                  have hlti : (j : Int) < (kk : Int) := by omega
                  have hqp := fun w => neq41 qq w
                  rw [eg]
                  clear want8 hcell8 eg HW HKK hjl
                  go_wp2_with fail
                  go_quiet (fail)
                  go_wp2_with fail
                  go_roundw
                  case rel => exact ⟨j + 1, by omega, by go_num, _, rfl⟩
                  case measure => simp [intOf]; omega
                · have hlti : ¬ (j : Int) < (kk : Int) := by omega
                  clear HW HKK
                  go_wp2_with fail
                  go_ret
                  exact ⟨rfl, below_drewN HE.out mm⟩

set_option maxRecDepth 100000 in
set_option maxHeartbeats 400000 in
theorem filter_long (a0 : Option Addr) (n cap : Nat) (m : Int) (lo : Bool) (w : World) (hn : 1024 < n) :
    Calls Yba.prog 3 #[.slice a0 n cap, .int .u8 m, .bool lo] w fun e w' => e = .returned (.bool true) ∧ w' = w := by
  have h1024 : decide ((1024 : Int) < (n : Int)) = true := decide_eq_true (by omega)
  go_enter Yba.func3, Yba.ntmps3
  go_wp2_with fail
  go_ret
  exact ⟨rfl, rfl⟩

end Go.Proofs.Ybulkblio
