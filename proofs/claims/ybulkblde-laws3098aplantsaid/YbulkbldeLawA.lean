/-
  The law's own state; the statements behind a given one.
-/
import Derived.Test.YbulkbldeNew
import Derived.Test.YbulkbldePlain
namespace Go.Proofs.Ybulkblde
open Go.RowKit

/-- A sequence without its first n statements. -/
def tl : Nat → Code → Code
  | 0, c => c
  | n + 1, .seq _ b => tl n b
  | _ + 1, c => c

/-- What the law's checks read. -/
structure LSt (w : World) (n tot : Nat) (p : Nat → Nat) (s sP : Nat → St) (g : Nat → Nat) (bi g1 g2 : Nat) (wx : World) : Prop where
  bel : Below w.heap.size w wx
  sz : w.heap.size + 5 ≤ wx.heap.size
  l1 : g1 < wx.heap.size
  l2 : g2 < wx.heap.size
  l3 : bi < wx.heap.size
  gs : wx.cell? ⟨w.heap.size + 2, 4, none⟩ = some (.slice (some ⟨w.heap.size + 3, 0, none⟩) tot tot)
  st : ∀ i, i < tot * 3 → wx.cell? ⟨w.heap.size + 3, i, none⟩ = some (stc sP i)
  be : ∀ i, i < tot * 3 → wx.cell? ⟨g1, i, none⟩ = some (stc s i)
  pr : ∀ i, i < n → wx.cell? ⟨g2, i, none⟩ = some (.int .i64 ((p i : Nat) : Int))
  ids : ∀ i, i < tot → wx.cell? ⟨bi, i, none⟩ = some (.int .i64 ((g i : Nat) : Int))

theorem LSt.grow {w : World} {n tot : Nat} {p : Nat → Nat} {s sP : Nat → St} {g : Nat → Nat} {bi g1 g2 : Nat} {wx wy : World} (h : LSt w n tot p s sP g bi g1 g2 wx) (hb : Below wx.heap.size wx wy) : LSt w n tot p s sP g bi g1 g2 wy := by
  have hs := hb.size
  have h1 := h.sz
  have h2 := h.l1
  have h3 := h.l2
  have h4 := h.l3
  exact ⟨h.bel.trans (hb.mono (by omega)), by omega, by omega, by omega, by omega, by rw [hb.cell (by simp; omega)]; exact h.gs,
    fun i hi => by rw [hb.cell (by simp; omega)]; exact h.st i hi, fun i hi => by rw [hb.cell (by simp; omega)]; exact h.be i hi, fun i hi => by rw [hb.cell (by simp; omega)]; exact h.pr i hi, fun i hi => by rw [hb.cell (by simp; omega)]; exact h.ids i hi⟩

theorem stc_one (s : Nat → St) (i : Nat) : (stc s i).oneCell' = true := by
  unfold stc
  split
  · rfl
  · split <;> rfl

theorem wrapI (x : Int) (h1 : -1000000 ≤ x) (h2 : x ≤ 1000000) : IntKind.i64.wrap x = x := by rw [IntKind.wrap_i64]; omega

/-- The comparison of two steps, hidden from the walk. -/
def eq32 (x y : Value) : Sem Value := binOp .eql 32 x y
theorem hideEq (x y : Value) : binOp .eql 32 x y = eq32 x y := rfl

def stq (a b : St) : Bool := (a.act == b.act) && ((a.txn == b.txn) && decide (a.it = b.it))

theorem stq_true {a b : St} (h : stq a b = true) : a = b := by
  unfold stq at h
  obtain ⟨a1, a2, a3⟩ := a
  obtain ⟨b1, b2, b3⟩ := b
  simp at h
  obtain ⟨rfl, rfl, rfl⟩ := h
  rfl
theorem stq_refl (a : St) : stq a a = true := by simp [stq]
theorem stq_false {a b : St} (h : stq a b = false) : a ≠ b := fun e => by rw [e, stq_refl] at h; exact absurd h (by decide)

theorem intEq (a b : Nat) : ((a : Int) == (b : Int)) = (a == b) := by
  rw [Bool.eq_iff_iff]; simp; omega

theorem run_stq (a b : St) (ha : a.it < 26) (hb : b.it < 26) (w : World) :
    (eq32 (.agg #[.int .u8 a.act, .int .i64 a.txn, .string (itm a.it)]) (.agg #[.int .u8 b.act, .int .i64 b.txn, .string (itm b.it)])).run Yba.prog w = .ok (.bool (stq a b)) w := by
  have e1 := intEq a.act b.act
  have e2 := intEq a.txn b.txn
  have e3 := itm_eq a.it b.it ha hb
  unfold eq32
  rw [run_eql_struct, run_equalIn_struct _ _ _ _ _ (by kernel_rfl) (by kernel_rfl)]
  unfold Program.fieldsOf
  rw [Yba.underlying32]
  dsimp only
  cases h1 : (a.act == b.act) <;> cases h2 : (a.txn == b.txn) <;> cases h3 : decide (a.it = b.it) <;> rw [h1] at e1 <;> rw [h2] at e2 <;> rw [h3] at e3 <;>
    simp [Op.eqFields, go_sem, e1, e2, e3, h1, h2, stq, run_equalIn_int _ _ _ _ _ _ _ Yba.underlying30, run_equalIn_int _ _ _ _ _ _ _ Yba.underlying3, run_equalIn_string _ _ _ _ _ Yba.underlying9] <;> simpa using h3
theorem plS_it {s : Nat → St} {k wt rt first second read x m : Nat} (hx : x < m) (id : Nat) (h : (s id).it < m) : (plS s k wt rt first second read x id).it < m := by
  unfold plS
  by_cases e1 : id = rt * k + read
  · subst e1; rw [upd_eq]; exact hx
  · rw [upd_ne e1, (rdz_it _ _ _ _ _).1]
    by_cases e2 : id = wt * k + second
    · subst e2; rw [upd_eq]; exact hx
    · rw [upd_ne e2]
      by_cases e3 : id = wt * k + first
      · subst e3; rw [upd_eq]; exact hx
      · rw [upd_ne e3]; exact h

end Go.Proofs.Ybulkblde
