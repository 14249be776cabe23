/-
  Bytes that a call owns; strconv.AppendInt off the shelf; appendString.
-/
import Derived.Shelf.Strconv.AppendIntPublic10
import Derived.Shelf.Lay
import Derived.Ground.NamesProg
import Derived.Test.YbulkbldsDoorChecked
import Derived.Test.YbulkbldsDoorRows
import Derived.WalkKit
import Derived.BigCall
import Derived.Deep.OwnRows
namespace Go.Proofs
open Go.Shelf
shelf_lay LaysM.n176 Nm 176 at Ybad as Ybad.laysAI
end Go.Proofs
namespace Go.Proofs.YbulkbldsDoor
open Go.Shelf Go.RowKit

/-- The name of the table of powers of ten, as the rows have it. -/
abbrev nPow : String := Rows.lawS3099AFailRow.named.headD ""

/-- A value that owns the bytes l. -/
def Owns (B : Nat) (v : Value) (l : List UInt8) (w : World) : Prop := w.ownsRow B 5 1 v l.length (Lib.byteCells l)

theorem bytes_append (a b : List UInt8) : Lib.byteCells (a ++ b) = Lib.byteCells a ++ Lib.byteCells b := by
  simp [Lib.byteCells]

theorem Owns.nil (B : Nat) (w : World) : Owns B (.slice none 0 0) [] w := World.ownsRow_nil _ _ _ _

theorem Owns.shape {B : Nat} {v : Value} {l : List UInt8} {w : World} (h : Owns B v l w) : ∃ a c, v = .slice a l.length c := by
  obtain ⟨_, ⟨h0, h1⟩ | ⟨g, cap, cur, hv, _⟩⟩ := h
  · exact ⟨none, 0, by rw [h0, h1]⟩
  · exact ⟨_, cap, hv⟩

theorem Owns.of {B : Nat} {v : Value} {l m : List UInt8} {w : World} {k : Nat} {ys : List Value} (h : w.ownsRow B 5 1 v (l.length + k) (Lib.byteCells l ++ ys)) (hk : k = m.length) (hy : ys = Lib.byteCells m) : Owns B v (l ++ m) w := by
  subst hk; subst hy
  unfold Owns
  rw [List.length_append, bytes_append]
  exact h

theorem appendInt_any (B : Nat) (i : Int) (h0 : -9223372036854775808 ≤ i) (h1 : i ≤ 9223372036854775807) (v : Value) (l : List UInt8) (w : World) (hown : Owns B v l w) (hB : B ≤ w.heap.size) (hl : l.length ≤ 1000000)
    (htab : Lib.TabBelow Ybad.prog B w nPow .u64 Lib.pow10Tab) :
    Calls Ybad.prog 28 #[v, .int .i64 i, .int .i64 10] w fun e w' => ∃ a' n' c', e = .returned (.slice a' n' c') ∧ Owns B (.slice a' n' c') (l ++ Lib.itoa i) w' ∧ Below B w w' := by
  refine (Any.strconv_AppendInt_10 Ybad.laysAI B l.length i h0 h1 v _ w hown hB (by omega) htab).mono ?_
  rintro e w' ⟨v', rfl, h, hb, _⟩
  have ho := Owns.of h rfl rfl
  obtain ⟨a', c', rfl⟩ := ho.shape
  exact ⟨_, _, _, rfl, ho, hb⟩

/-- 'append(v, c)' of one byte, v owned. -/
theorem wp_byte {ops : Array Oper} {rest : List Oper} {o : Oper} {a : Act} {Q : Exit → Act → World → Prop} (w : World) (hgd : o.guard = none) (s x : Operand)
    (ho : o.op = Op.call { callee := Callee.builtin Builtin.append, args := #[s, x], argTypes := #[23, 23] }) {B : Nat} {v : Value} {l : List UInt8} (hown : Owns B v l w) (hs : a.eval s = v) (hB : B ≤ w.heap.size)
    (hl : l.length ≤ 100000000) (c : UInt8) (cs : Array Value) (hc : cs = #[.int .u8 (c.toNat : Int)]) (hx : a.eval x = .slice (some ⟨w.heap.size, 0, none⟩) 1 1)
    (h : ∀ a' n' c' w', Owns B (.slice a' n' c') (l ++ [c]) w' → Below B w w' → wpList Ybad.prog ops Q rest (a.put o.dst (.slice a' n' c')) w') : wpList Ybad.prog ops Q (o :: rest) a (w.alloc (.cells cs 5)) := by
  subst hc
  obtain ⟨i0, hi, hz0, hz1, hz2⟩ := info_parts Ybad.laysAI.i5
  refine wpList_append_own _ hgd s x 23 ho B 5 i0 (.int .u8 0) 1 1 Ybad.underlying23 hi hz0 hz1 hz2 rfl (by decide) v _ _ hs (World.ownsRow.alloc hown _) ⟨w.heap.size, 0, none⟩ 1 1 [Value.int .u8 (c.toNat : Int)] hx rfl ?_ ?_ (by unfold maxLen; omega) (by omega) (by simp; omega) ?_
  · intro j u' hj
    match j, hj with
    | 0, hj => simp at hj; subst hj; simp [Addr.add]
  · intro u' hu'; simp at hu'; subst hu'; rfl
  · intro v1 w1 hown1 hgrow _
    have ho : Owns B v1 (l ++ [c]) w1 := Owns.of hown1 rfl rfl
    obtain ⟨a', c', rfl⟩ := ho.shape
    exact h _ _ _ w1 ho (((Below.refl B w).alloc hB _).grown hgrow (by simp; omega) (fun k hk => (World.ownsRow.lt hown k hk).1))

/-- 'append(v, m...)' of a string, v owned. -/
theorem wp_str {ops : Array Oper} {rest : List Oper} {o : Oper} {a : Act} {Q : Exit → Act → World → Prop} (w : World) (hgd : o.guard = none) (s x : Operand)
    (ho : o.op = Op.call { callee := Callee.builtin Builtin.append, args := #[s, x], argTypes := #[23, 9] }) {B : Nat} {v : Value} {l : List UInt8} (m : List UInt8) (hown : Owns B v l w) (hs : a.eval s = v) (hB : B ≤ w.heap.size)
    (hl : l.length + m.length ≤ 100000000) (hx : a.eval x = .string ⟨m.toArray⟩)
    (h : ∀ a' n' c' w', Owns B (.slice a' n' c') (l ++ m) w' → Below B w w' → wpList Ybad.prog ops Q rest (a.put o.dst (.slice a' n' c')) w') : wpList Ybad.prog ops Q (o :: rest) a w := by
  obtain ⟨i0, hi, hz0, hz1, hz2⟩ := info_parts Ybad.laysAI.i5
  have hsz : (⟨m.toArray⟩ : ByteArray).size = m.length := by simp [ByteArray.size]
  refine Lib.wpList_append_own_string _ hgd s x 23 9 ho B 5 i0 Ybad.underlying23 Ybad.underlying9 hi hz0 hz1 hz2 v _ _ hs hown ⟨m.toArray⟩ hx (by rw [hsz]; unfold maxLen; omega) (by rw [hsz]; omega) hB ?_
  intro v1 w1 hown1 hgrow _
  have ho : Owns B v1 (l ++ m) w1 := Owns.of hown1 hsz (Lib.strCells_toArray m)
  obtain ⟨a', c', rfl⟩ := ho.shape
  exact h _ _ _ w1 ho ((Below.refl B w).grown hgrow hB (fun k hk => (World.ownsRow.lt hown k hk).1))

set_option maxRecDepth 100000 in
theorem appendString_any (B : Nat) (v : Value) (l m : List UInt8) (w : World) (hown : Owns B v l w) (hB : B ≤ w.heap.size) (hl : l.length + m.length ≤ 1000000) :
    Calls Ybad.prog 33 #[v, .string ⟨m.toArray⟩] w fun e w' => ∃ a' n' c', e = .returned (.slice a' n' c') ∧ Owns B (.slice a' n' c') (l ++ 34 :: (m ++ [34])) w' ∧ Below B w w' := by
  go_enter Ybad.func33, Ybad.ntmps33
  go_wp2_with (at_builtin; refine wp_byte w rfl _ _ rfl hown rfl hB (by omega) 34 _ rfl rfl ?_)
  intro a1 n1 c1 w1 o1 b1
  have s1 := b1.size
  go_wp2_with (at_builtin; refine wp_str w1 rfl _ _ rfl m o1 rfl (by omega) (by simp; omega) rfl ?_)
  intro a2 n2 c2 w2 o2 b2
  have s2 := b2.size
  go_wp2_with (at_builtin; refine wp_byte w2 rfl _ _ rfl o2 rfl (by omega) (by simp; omega) 34 _ rfl rfl ?_)
  intro a3 n3 c3 w3 o3 b3
  go_wp2
  go_ret
  exact ⟨a3, n3, c3, rfl, o3, (b1.trans b2).trans b3⟩
end Go.Proofs.YbulkbldsDoor
