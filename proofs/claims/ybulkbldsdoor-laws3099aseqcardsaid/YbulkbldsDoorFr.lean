/-
  Appends with the strong frame.
-/
import Derived.Test.YbulkbldsDoorZint
namespace Go.Proofs.YbulkbldsDoor
open Go.Shelf Go.RowKit

/-- From w to w' no block that was there has turned but v's own; v' lies where v lay, or anew. -/
structure Fr (v : Value) (w : World) (v' : Value) (w' : World) : Prop where
  os : w'.os = w.os
  tape : w'.tape = w.tape
  output : w'.output = w.output
  size : w.heap.size ≤ w'.heap.size
  block : ∀ k, k < w.heap.size → some k ≠ v.ownBlock → w'.heap[k]? = w.heap[k]?
  own : v'.ownBlock = v.ownBlock ∨ ∃ g, v'.ownBlock = some g ∧ w.heap.size ≤ g

theorem Fr.refl (v : Value) (w : World) : Fr v w v w := ⟨rfl, rfl, rfl, Nat.le_refl _, fun _ _ _ => rfl, Or.inl rfl⟩

theorem Fr.trans {v v1 v2 : Value} {w w1 w2 : World} (h : Fr v w v1 w1) (k : Fr v1 w1 v2 w2) : Fr v w v2 w2 := by
  refine ⟨k.os.trans h.os, k.tape.trans h.tape, k.output.trans h.output, Nat.le_trans h.size k.size, ?_, ?_⟩
  · intro j hj hn
    have s := h.size
    rw [k.block j (by omega) ?_, h.block j hj hn]
    rcases h.own with e | ⟨g, e, hg⟩
    · rw [e]; exact hn
    · rw [e]; intro h'; injection h'; omega
  · have s := h.size
    rcases k.own with e | ⟨g, e, hg⟩
    · rw [e]; exact h.own
    · exact Or.inr ⟨g, e, by omega⟩

theorem Fr.of {v v' : Value} {w w' : World} (hg : w.grownBy w' v.ownBlock) (ho : v'.ownBlock = v.ownBlock ∨ v'.ownBlock = some w.heap.size) : Fr v w v' w' :=
  ⟨hg.os, hg.tape, hg.output, hg.size, hg.block, (by rcases ho with e | e; exact Or.inl e; exact Or.inr ⟨_, e, Nat.le_refl _⟩)⟩

theorem Fr.alloc {v v' : Value} {w w' : World} {o : Obj} (h : Fr v (w.alloc o) v' w') : Fr v w v' w' := by
  have e : (w.alloc o).heap.size = w.heap.size + 1 := by simp
  refine ⟨h.os, h.tape, h.output, by have := h.size; omega, fun k hk hn => (h.block k (by omega) hn).trans (Below.heap_alloc _ _ _ hk), (by rcases h.own with e1 | ⟨g, e1, e2⟩; exact Or.inl e1; exact Or.inr ⟨g, e1, by omega⟩)⟩

theorem Fr.below {B : Nat} {v v' : Value} {l : List UInt8} {w w' : World} (h : Fr v w v' w') (ho : Owns B v l w) (hB : B ≤ w.heap.size) : Below B w w' :=
  ⟨h.os, h.tape, h.output, h.size, fun k hk => h.block k (by omega) (fun e => by have := (World.ownsRow.lt ho k e.symm).1; omega)⟩

theorem blk_bytes {B : Nat} {v : Value} {l : List UInt8} {w : World} (hown : Owns B v l w) (ty : TypeId) (m : List UInt8) (ad : Addr) (c : Nat) (hl : l.length + m.length ≤ 100000000) (hnews : ∀ j u, (Lib.byteCells m)[j]? = some u → w.cell? (ad.add j) = some u)
    {v' : Value} {w' : World} (hr : (Builtin.append_ #[23, 23] ty #[v, .slice (some ad) m.length c]).run Ybad.prog w = .ok v' w') : v'.ownBlock = v.ownBlock ∨ v'.ownBlock = some w.heap.size := by
  obtain ⟨i, hi, hz0, hz1, hz2⟩ := info_parts Ybad.laysAI.i5
  have hbl : (Lib.byteCells m).length = m.length * i.size := by rw [hz1]; simp [Lib.byteCells]
  have hlc : (Lib.byteCells l).length = l.length * i.size := by rw [hz1]; simp [Lib.byteCells]
  have h1 : ∀ u ∈ Lib.byteCells m, u.oneCell' = true := fun u hu => by
    simp only [Lib.byteCells, List.mem_map] at hu
    obtain ⟨b, _, rfl⟩ := hu
    rfl
  rcases hown.2 with ⟨rfl, hn⟩ | ⟨g, cap, cur, rfl, hbg, hg, hnc, hcm, hcs, htake⟩
  · by_cases hm : m.length = 0
    · obtain rfl : m = [] := List.eq_nil_of_length_eq_zero hm
      have e : (Builtin.append_ #[23, 23] ty #[.slice none 0 0, .slice (some ad) 0 c]).run Ybad.prog w = .ok (.slice none 0 0) w := by
        simp [Builtin.append_, run_underlying Ybad.underlying23, sizeOf, typeInfo, show Ybad.prog.info? 5 = some i from hi, Builtin.lenOf, Builtin.firstCells, loadCells, loadCellsFrom]
      have e2 := e.symm.trans hr
      injection e2 with e3 e4
      exact Or.inl (by rw [← e3])
    · have e := run_append_nil (P := Ybad.prog) w 23 ty 5 i (.int .u8 0) Ybad.underlying23 hi hz0 ad m.length c (Lib.byteCells m) hbl hnews (by omega) (by omega) (by rw [hz2]; omega)
      have e2 := e.symm.trans hr
      injection e2 with e3 e4
      exact Or.inr (by rw [← e3]; rfl)
  · by_cases hroom : l.length + m.length ≤ cap
    · have hcs' : cur.size = cap := by simpa using hcs
      have e := run_append_room (P := Ybad.prog) w 23 ty 5 i Ybad.underlying23 hi g l.length cap cur hg ad m.length c (Lib.byteCells m) hbl hnews h1 hroom (by rw [hbl, hz1]; omega)
      have e2 := e.symm.trans hr
      injection e2 with e3 e4
      exact Or.inl (by rw [← e3]; rfl)
    · have holds : ∀ j u, (Lib.byteCells l)[j]? = some u → w.cell? ((⟨g, 0, none⟩ : Addr).add j) = some u := World.ownsRow.cells hown (g := g) rfl
      have e := run_append_grow (P := Ybad.prog) w 23 ty 5 i (.int .u8 0) Ybad.underlying23 hi hz0 ⟨g, 0, none⟩ l.length cap (Lib.byteCells l) hlc holds ad m.length c (Lib.byteCells m) hbl hnews (by omega) (by omega) (growslice_fits (by omega) (by rw [hz2]; omega))
      have e2 := e.symm.trans hr
      injection e2 with e3 e4
      exact Or.inr (by rw [← e3]; rfl)

theorem blk_str {B : Nat} {v : Value} {l : List UInt8} {w : World} (hown : Owns B v l w) (ty : TypeId) (s : ByteArray) (hl : l.length + s.size ≤ 100000000)
    {v' : Value} {w' : World} (hr : (Builtin.append_ #[23, 9] ty #[v, .string s]).run Ybad.prog w = .ok v' w') : v'.ownBlock = v.ownBlock ∨ v'.ownBlock = some w.heap.size := by
  obtain ⟨i, hi, hz0, hz1, hz2⟩ := info_parts Ybad.laysAI.i5
  have hlc : (Lib.byteCells l).length = l.length * i.size := by rw [hz1]; simp [Lib.byteCells]
  rcases hown.2 with ⟨rfl, hn⟩ | ⟨g, cap, cur, rfl, hbg, hg, hnc, hcm, hcs, htake⟩
  · by_cases hm : s.size = 0
    · have hf := Lib.run_firstCells_string (P := Ybad.prog) w 1 s
      rw [hm] at hf
      have hn : Lib.strCells s = [] := List.eq_nil_of_length_eq_zero (by rw [Lib.strCells_length]; exact hm)
      have e : (Builtin.append_ #[23, 9] ty #[.slice none 0 0, .string s]).run Ybad.prog w = .ok (.slice none 0 0) w := by
        simp [Builtin.append_, run_underlying Ybad.underlying23, run_underlying Ybad.underlying9, sizeOf, typeInfo, show Ybad.prog.info? 5 = some i from hi, hz1, Builtin.lenOf, hm, hf]
      have e2 := e.symm.trans hr
      injection e2 with e3 e4
      exact Or.inl (by rw [← e3])
    · have e := run_append_nil_string (P := Ybad.prog) w 23 9 ty 5 i (.int .u8 0) Ybad.underlying23 Ybad.underlying9 hi hz0 s (by omega) (by omega) (by rw [hz2]; omega)
      have e2 := e.symm.trans hr
      injection e2 with e3 e4
      exact Or.inr (by rw [← e3]; rfl)
  · by_cases hroom : l.length + s.size ≤ cap
    · have hcs' : cur.size = cap := by simpa using hcs
      have e := Lib.run_append_room_string (P := Ybad.prog) w 23 9 ty 5 i Ybad.underlying23 Ybad.underlying9 hi hz1 g l.length cap cur hg s hroom (by omega)
      have e2 := e.symm.trans hr
      injection e2 with e3 e4
      exact Or.inl (by rw [← e3]; rfl)
    · have holds : ∀ j u, (Lib.byteCells l)[j]? = some u → w.cell? ((⟨g, 0, none⟩ : Addr).add j) = some u := World.ownsRow.cells hown (g := g) rfl
      have e := Lib.run_append_grow_string (P := Ybad.prog) w 23 9 ty 5 i (.int .u8 0) Ybad.underlying23 Ybad.underlying9 hi hz0 ⟨g, 0, none⟩ l.length cap (Lib.byteCells l) hlc holds s (by omega) (by omega) (by rw [hz2]; exact growslice_fits (by omega) (by omega))
      have e2 := e.symm.trans hr
      injection e2 with e3 e4
      exact Or.inr (by rw [← e3]; rfl)

/-- 'append(v, m...)' of bytes that lie in a row, v owned: with the strong frame. -/
theorem wp_rowF {ops : Array Oper} {rest : List Oper} {o : Oper} {a : Act} {Q : Exit → Act → World → Prop} (w : World) (hgd : o.guard = none) (s x : Operand)
    (ho : o.op = Op.call { callee := Callee.builtin Builtin.append, args := #[s, x], argTypes := #[23, 23] }) {B : Nat} {v : Value} {l : List UInt8} (m : List UInt8) (hown : Owns B v l w) (hs : a.eval s = v) (hB : B ≤ w.heap.size)
    (hl : l.length + m.length ≤ 100000000) (ad : Addr) (c k : Nat) (hk : k = m.length) (hx : a.eval x = .slice (some ad) k c) (hnews : ∀ j (b : UInt8), m[j]? = some b → w.cell? (ad.add j) = some (.int .u8 (b.toNat : Int)))
    (h : ∀ a' n' c' w', Owns B (.slice a' n' c') (l ++ m) w' → Fr v w (.slice a' n' c') w' → wpList Ybad.prog ops Q rest (a.put o.dst (.slice a' n' c')) w') : wpList Ybad.prog ops Q (o :: rest) a w := by
  subst hk
  obtain ⟨i0, hi, hz0, hz1, hz2⟩ := info_parts Ybad.laysAI.i5
  have hnews' : ∀ j u, (Lib.byteCells m)[j]? = some u → w.cell? (ad.add j) = some u := by
    intro j u' hj
    simp only [Lib.byteCells, List.getElem?_map, Option.map_eq_some_iff] at hj
    obtain ⟨b, hb, rfl⟩ := hj
    exact hnews j b hb
  obtain ⟨v', w', hr, h2, h3, _⟩ := run_append_own (P := Ybad.prog) w B 23 o.type 5 i0 (.int .u8 0) 1 1 Ybad.underlying23 hi hz0 hz1 hz2 rfl (by decide) v _ _ hown ad m.length c (Lib.byteCells m) (by simp [Lib.byteCells]) hnews'
    (fun u hu => by simp only [Lib.byteCells, List.mem_map] at hu; obtain ⟨b, _, rfl⟩ := hu; rfl) (by unfold maxLen; omega) (by omega) hB
  have hb := blk_bytes hown o.type m ad c hl hnews' hr
  have ho2 : Owns B v' (l ++ m) w' := Owns.of h2 rfl rfl
  obtain ⟨a', c', rfl⟩ := ho2.shape
  refine wpList_plain hgd fun K hK => ?_
  unfold Oper.wp execOp
  simp only [ho, resolve, invoke, builtin, Sem.run_bind, Sem.run_pure, Result.andThen_ok, List.map_toArray, List.map_cons, List.map_nil, hs, hx, hr]
  exact hK _ _ (h _ _ _ w' ho2 (Fr.of h3 hb))

theorem wp_byteF {ops : Array Oper} {rest : List Oper} {o : Oper} {a : Act} {Q : Exit → Act → World → Prop} (w : World) (hgd : o.guard = none) (s x : Operand)
    (ho : o.op = Op.call { callee := Callee.builtin Builtin.append, args := #[s, x], argTypes := #[23, 23] }) {B : Nat} {v : Value} {l : List UInt8} (hown : Owns B v l w) (hs : a.eval s = v) (hB : B ≤ w.heap.size)
    (hl : l.length ≤ 10000000) (c : UInt8) (cs : Array Value) (hc : cs = #[.int .u8 (c.toNat : Int)]) (hx : a.eval x = .slice (some ⟨w.heap.size, 0, none⟩) 1 1)
    (h : ∀ a' n' c' w', Owns B (.slice a' n' c') (l ++ [c]) w' → Fr v w (.slice a' n' c') w' → wpList Ybad.prog ops Q rest (a.put o.dst (.slice a' n' c')) w') : wpList Ybad.prog ops Q (o :: rest) a (w.alloc (.cells cs 5)) := by
  subst hc
  refine wp_rowF (w.alloc (.cells #[.int .u8 (c.toNat : Int)] 5)) hgd s x ho [c] (World.ownsRow.alloc hown _) hs (by simp; omega) (by simp; omega) ⟨w.heap.size, 0, none⟩ 1 1 rfl hx ?_ (fun a' n' c' w' h1 h2 => h a' n' c' w' h1 h2.alloc)
  intro j b hj
  match j, hj with
  | 0, hj => simp at hj; subst hj; simp [Addr.add]

theorem wp_strF {ops : Array Oper} {rest : List Oper} {o : Oper} {a : Act} {Q : Exit → Act → World → Prop} (w : World) (hgd : o.guard = none) (s x : Operand)
    (ho : o.op = Op.call { callee := Callee.builtin Builtin.append, args := #[s, x], argTypes := #[23, 9] }) {B : Nat} {v : Value} {l : List UInt8} (m : List UInt8) (hown : Owns B v l w) (hs : a.eval s = v) (hB : B ≤ w.heap.size)
    (hl : l.length + m.length ≤ 100000000) (hx : a.eval x = .string ⟨m.toArray⟩)
    (h : ∀ a' n' c' w', Owns B (.slice a' n' c') (l ++ m) w' → Fr v w (.slice a' n' c') w' → wpList Ybad.prog ops Q rest (a.put o.dst (.slice a' n' c')) w') : wpList Ybad.prog ops Q (o :: rest) a w := by
  obtain ⟨i0, hi, hz0, hz1, hz2⟩ := info_parts Ybad.laysAI.i5
  have hsz : (⟨m.toArray⟩ : ByteArray).size = m.length := by simp [ByteArray.size]
  obtain ⟨v', w', hr, h2, h3, _⟩ := Lib.run_append_own_string (P := Ybad.prog) w B 23 9 o.type 5 i0 Ybad.underlying23 Ybad.underlying9 hi hz0 hz1 hz2 v _ _ hown ⟨m.toArray⟩ (by rw [hsz]; unfold maxLen; omega) (by rw [hsz]; omega) hB
  have hb := blk_str hown o.type ⟨m.toArray⟩ (by rw [hsz]; exact hl) hr
  have ho2 : Owns B v' (l ++ m) w' := Owns.of h2 hsz (Lib.strCells_toArray m)
  obtain ⟨a', c', rfl⟩ := ho2.shape
  refine wpList_plain hgd fun K hK => ?_
  unfold Oper.wp execOp
  simp only [ho, resolve, invoke, builtin, Sem.run_bind, Sem.run_pure, Result.andThen_ok, List.map_toArray, List.map_cons, List.map_nil, hs, hx, hr]
  exact hK _ _ (h _ _ _ w' ho2 (Fr.of h3 hb))

set_option maxRecDepth 100000 in
theorem appendStringF (B : Nat) (v : Value) (l m : List UInt8) (w : World) (hown : Owns B v l w) (hB : B ≤ w.heap.size) (hl : l.length + m.length ≤ 1000000) :
    Calls Ybad.prog 33 #[v, .string ⟨m.toArray⟩] w fun e w' => ∃ a' n' c', e = .returned (.slice a' n' c') ∧ Owns B (.slice a' n' c') (l ++ 34 :: (m ++ [34])) w' ∧ Fr v w (.slice a' n' c') w' := by
  go_enter Ybad.func33, Ybad.ntmps33
  go_wp2_with (at_builtin; refine wp_byteF w rfl _ _ rfl hown rfl hB (by omega) 34 _ rfl rfl ?_)
  intro a1 n1 c1 w1 o1 b1
  have s1 := b1.size
  have F1 := (show Hid _ from b1)
  clear b1
  go_wp2_with (at_builtin; refine wp_strF w1 rfl _ _ rfl m o1 rfl (by omega) (by simp; omega) rfl ?_)
  intro a2 n2 c2 w2 o2 b2
  have s2 := b2.size
  have F2 := (show Hid _ from b2)
  clear b2
  go_wp2_with (at_builtin; refine wp_byteF w2 rfl _ _ rfl o2 rfl (by omega) (by simp; omega) 34 _ rfl rfl ?_)
  intro a3 n3 c3 w3 o3 b3
  have F3 := (show Hid _ from b3)
  clear b3
  go_wp2
  go_ret
  exact ⟨a3, n3, c3, rfl, o3, (F1.out.trans F2.out).trans F3.out⟩
end Go.Proofs.YbulkbldsDoor
