/-
  THE LAW's PARTS: the durations, the session, newHeldLocks, an item's copy.
-/
import Derived.Test.YbulkblioDrop
namespace Go.Proofs.Ybulkblio
open Go.RowKit
set_option linter.unusedSimpArgs false

def dvals (l : List Nat) : List Value := l.map (fun x : Nat => .int .u8 (x : Int))
def OwnD (B : Nat) (v : Value) (l : List Nat) (w : World) : Prop := w.ownsRow B 57 1 v l.length (dvals l)

theorem OwnD.shape {B : Nat} {v : Value} {l : List Nat} {w : World} (h : OwnD B v l w) : ∃ a c, v = .slice a l.length c ∧ l.length ≤ c ∧ c ≤ maxLen := by
  obtain ⟨_, ⟨h0, h1⟩ | ⟨g, cap, cur, hv, _, _, h2, h3, _⟩⟩ := h
  · exact ⟨none, 0, by rw [h0, h1], by omega, by unfold maxLen; omega⟩
  · exact ⟨_, cap, hv, h2, h3⟩

/-- 'append(v, x)' of one duration, v owned: where the new row lies. -/
theorem run_dur {B : Nat} {v : Value} {l : List Nat} {w : World} (hown : OwnD B v l w) (ty : TypeId) (x : Nat) (hl : l.length ≤ 10000) (hB : B ≤ w.heap.size) (S : Nat) (hcell : w.cell? ⟨S, 0, none⟩ = some (.int .u8 (x : Int))) :
    ∃ v' w', (Builtin.append_ #[56, 56] ty #[v, .slice (some ⟨S, 0, none⟩) 1 1]).run Yba.prog w = .ok v' w' ∧ OwnD B v' (l ++ [x]) w' ∧ w.grownBy w' v.ownBlock ∧ (v'.ownBlock = v.ownBlock ∨ v'.ownBlock = some w.heap.size) := by
  obtain ⟨i, hi, hzz⟩ := Option.map_eq_some_iff.1 info57
  simp only [Prod.mk.injEq] at hzz
  obtain ⟨hz0, hz1, hz2⟩ := hzz
  have hnews : ∀ j u, ([.int .u8 (x : Int)] : List Value)[j]? = some u → w.cell? ((⟨S, 0, none⟩ : Addr).add j) = some u := by
    intro j u hj
    match j, hj with
    | 0, hj => simp at hj; subst hj; simpa [Addr.add] using hcell
  have h1 : ∀ u ∈ ([.int .u8 (x : Int)] : List Value), u.oneCell' = true := by simp [Value.oneCell']
  obtain ⟨v', w', hr, h2, h3, _⟩ := run_append_own (P := Yba.prog) w B 56 ty 57 i (.int .u8 0) 1 1 Yba.underlying56 hi hz0 hz1 hz2 rfl (by decide) v _ _ hown ⟨S, 0, none⟩ 1 1 [.int .u8 (x : Int)] rfl hnews h1 (by unfold maxLen; omega) (by omega) hB
  refine ⟨v', w', hr, ?_, h3, ?_⟩
  · unfold OwnD dvals
    simpa [dvals] using h2
  · have hlc : (dvals l).length = l.length * i.size := by rw [hz1]; simp [dvals]
    rcases hown.2 with ⟨rfl, hn⟩ | ⟨g, cap, cur, rfl, hbg, hg, hnc, hcm, hcs, htake⟩
    · have e := run_append_nil (P := Yba.prog) w 56 ty 57 i (.int .u8 0) Yba.underlying56 hi hz0 ⟨S, 0, none⟩ 1 1 [.int .u8 (x : Int)] (by rw [hz1]; rfl) hnews (by omega) (by omega) (by rw [hz2]; omega)
      have e2 := e.symm.trans hr
      injection e2 with e3 e4
      exact Or.inr (by rw [← e3]; rfl)
    · by_cases hroom : l.length + 1 ≤ cap
      · have hcs' : cur.size = cap := by simpa using hcs
        have e := run_append_room (P := Yba.prog) w 56 ty 57 i Yba.underlying56 hi g l.length cap cur hg ⟨S, 0, none⟩ 1 1 [.int .u8 (x : Int)] (by rw [hz1]; rfl) hnews h1 hroom (by rw [hz1]; simp; omega)
        have e2 := e.symm.trans hr
        injection e2 with e3 e4
        exact Or.inl (by rw [← e3]; rfl)
      · have holds : ∀ j u, (dvals l)[j]? = some u → w.cell? ((⟨g, 0, none⟩ : Addr).add j) = some u := World.ownsRow.cells hown (g := g) rfl
        have e := run_append_grow (P := Yba.prog) w 56 ty 57 i (.int .u8 0) Yba.underlying56 hi hz0 ⟨g, 0, none⟩ l.length cap (dvals l) hlc holds ⟨S, 0, none⟩ 1 1 [.int .u8 (x : Int)] (by rw [hz1]; rfl) hnews (by omega) (by omega) (growslice_fits (by omega) (by rw [hz2]; omega))
        have e2 := e.symm.trans hr
        injection e2 with e3 e4
        exact Or.inr (by rw [← e3]; rfl)

/-- What 'append(v, x)' leaves. -/
structure AppD (B : Nat) (v : Value) (l : List Nat) (x : Nat) (w : World) (v' : Value) (w' : World) : Prop where
  own : OwnD B v' (l ++ [x]) w'
  grown : w.grownBy w' v.ownBlock
  blk : v'.ownBlock = v.ownBlock ∨ ∃ g, v'.ownBlock = some g ∧ w.heap.size ≤ g

theorem wp_dur {ops : Array Oper} {rest : List Oper} {o : Oper} {a : Act} {Q : Exit → Act → World → Prop} (w : World) (hgd : o.guard = none) (s x : Operand)
    (ho : o.op = Op.call { callee := Callee.builtin Builtin.append, args := #[s, x], argTypes := #[56, 56] }) {B : Nat} {v : Value} {l : List Nat} (hown : OwnD B v l w) (hl : l.length ≤ 10000) (hB : B ≤ w.heap.size)
    (z : Nat) (cs : Array Value) (hc : cs = #[.int .u8 (z : Int)]) (hs : a.eval s = v) (hx : a.eval x = .slice (some ⟨w.heap.size, 0, none⟩) 1 1)
    (h : ∀ v' w', AppD B v l z w v' w' → wpList Yba.prog ops Q rest (a.put o.dst v') w') : wpList Yba.prog ops Q (o :: rest) a (w.alloc (.cells cs 57)) := by
  subst hc
  obtain ⟨v', w', hr, h2, h3, h4⟩ := run_dur (w := w.alloc (.cells #[.int .u8 (z : Int)] 57)) (World.ownsRow.alloc hown _) o.type z hl (by simp; omega) w.heap.size (by rw [World.cell?_alloc_new]; rfl)
  refine wpList_plain hgd fun K hK => ?_
  unfold Oper.wp execOp
  simp only [ho, resolve, invoke, builtin, Sem.run_bind, Sem.run_pure, Result.andThen_ok, List.map_toArray, List.map_cons, List.map_nil, hs, hx, hr]
  refine hK _ _ (h _ _ ⟨h2, ?_, ?_⟩)
  · have e : (w.alloc (.cells #[.int .u8 (z : Int)] 57)).heap.size = w.heap.size + 1 := by simp
    exact ⟨h3.os, h3.tape, h3.output, by have := h3.size; omega, fun k hk hn => (h3.block k (by omega) hn).trans (Below.heap_alloc _ _ _ hk)⟩
  · rcases h4 with h4 | h4
    · exact .inl h4
    · exact .inr ⟨_, h4, by simp⟩


theorem OwnD.shape' {B : Nat} {v : Value} {l : List Nat} {w : World} (h : OwnD B v l w) : ∃ a n c, v = .slice a n c := by
  obtain ⟨a, c, e, _⟩ := h.shape
  exact ⟨a, _, c, e⟩

theorem OwnD.dur {B : Nat} {ad : Option Addr} {c : Nat} {l : List Nat} {w : World} (h : OwnD B (.slice ad l.length c) l w) (le : ∀ x, x ∈ l → x ≤ 255) (len : l.length ≤ 3) : DurIs w ad l := by
  refine ⟨fun j hj => ?_, le, len⟩
  rcases h.2 with ⟨_, h0⟩ | ⟨g, cap, cur, hv, hbg, hg, _⟩
  · omega
  · injection hv with e4 e5 e6
    refine ⟨g, e4, ?_⟩
    have := World.ownsRow.cells h (g := g) (by rw [e4]; rfl) j (.int .u8 (l[j] : Int)) (by simp [dvals, hj])
    rwa [Lib.add_plain, Nat.zero_add] at this

/-- a session's zero value -/
def ss0 : Array Value := #[.int .u8 0, .int .u8 0, .int .u8 0, .int .u8 0, .int .u8 0, .int .u8 0, .int .u8 0, .int .u8 0, .int .u8 0, .int .u8 0, .int .u8 0, .int .u8 0, .int .u8 0, .int .u8 0, .int .u8 0, .int .u8 0, .pointer none, .string ByteArray.empty, .int .i32 0, .int .u32 0, .slice none 0 0, .int .i64 0, .int .i64 0, .int .i64 0, .int .i64 0, .int .i64 0, .slice none 0 0, .int .i64 0, .int .i64 0, .int .i64 0, .int .i64 0, .int .i64 0, .int .i64 0, .pointer none, .pointer none, .int .u64 0, .int .u64 0, .int .u64 0, .int .u64 0, .int .i64 0, .int .u64 0, .int .u64 0, .pointer none, .pointer none, .bool false, .slice none 0 0, .pointer none, .bool false]
def bld55 (parts : Array (Nat × Value)) := Instr.build 55 parts
theorem hide55 (parts : Array (Nat × Value)) : Instr.build 55 parts = bld55 parts := rfl
theorem run_bld55 (w : World) : (bld55 #[]).run Yba.prog w = .ok (.agg ss0) w := by kernel_rfl
theorem box55 (w : World) : (Instr.box 55 (.agg ss0)).run Yba.prog w = .ok (.pointer (some ⟨w.heap.size, 0, none⟩)) (w.alloc (.cells ss0 55)) := by kernel_rfl
theorem box70 (w : World) : (Instr.box 70 (.agg rq0)).run Yba.prog w = .ok (.pointer (some ⟨w.heap.size, 0, none⟩)) (w.alloc (.cells rq0 70)) := by kernel_rfl

theorem sp_new {B bs : Nat} {w : World} (h : w.heap[bs]? = some (.cells ss0 55 (0, 0))) : Sp B bs w :=
  ⟨⟨.slice none 0 0, [], by rw [cell_whole h]; rfl, World.ownsRow_nil _ _ _ _, by simp⟩, frozen_whole h 45⟩

/-- the held locks' cells, new -/
def hl0 (v : Value) : Array Value := #[v, .int .i64 0, .int .i64 0, .int .i64 0, .int .i64 0, .int .i64 0, .slice none 0 0, .int .i64 0, .int .i64 0, .int .i64 0, .int .i64 0, .int .i64 0, .int .i64 0, .pointer none]

theorem hl_new {w : World} {bh bl n : Nat} (h : w.heap[bh]? = some (.cells (hl0 (.slice (some ⟨bl, 0, none⟩) 0 n)) 40 (0, 0))) : HL w bh bl n 0 0 (fun _ => 0) := by
  have hc := cell_whole h
  refine ⟨by rw [hc]; rfl, by rw [hc]; rfl, ?_, by rw [hc]; rfl, by rw [hc]; rfl, by rw [hc]; rfl, frozen_whole h⟩
  intro d hd
  rw [hc]
  match d, hd with
  | 0, _ => rfl
  | 1, _ => rfl
  | 2, _ => rfl
  | 3, _ => rfl

theorem z40 : (Yba.prog.info? 40).map (·.size) = some 14 := by kernel_rfl

theorem heap2 (h : Array Obj) (X Y : Obj) : ((h.push X).push Y)[h.size]? = some X ∧ ((h.push X).push Y)[h.size + 1]? = some Y := by
  refine ⟨?_, ?_⟩
  · rw [Array.getElem?_push, if_neg (by simp), Array.getElem?_push, if_pos rfl]
  · rw [Array.getElem?_push, if_pos (by simp)]

structure NewHeld (n : Nat) (w : World) (e : Ending) (w' : World) : Prop where
  but : But [] w w'
  ret : ∃ bl, e = .returned (.agg (hl0 (.slice (some ⟨bl, 0, none⟩) 0 n))) ∧ w.heap.size ≤ bl ∧ bl < w'.heap.size ∧ w'.rowIs bl 41 n (fun _ => .pointer none)

set_option maxRecDepth 100000 in
set_option maxHeartbeats 1000000 in
theorem newHeld_any (n : Nat) (w : World) (hn : n ≤ 1024) : Calls Yba.prog 4 #[.int .i64 n] w fun e w' => NewHeld n w e w' := by
  have hmk := run_make_req n (by omega)
  go_enter Yba.func4, Yba.ntmps4
  go_wp2_with fail
  refine bodyPost_ret (results_cell_row (P := Yba.prog) rfl _ _ w.heap.size 40 _ (0, 0) _ rfl (heap2 w.heap _ _).1 Yba.underlying40 rfl z40) rfl ?_
  refine ⟨((But.refl _ _).alloc _).alloc _, w.heap.size + 1, rfl, by omega, by simp, ?_⟩
  have := World.rowIs_made (w.alloc (Obj.cells (hl0 (.slice (some ⟨w.heap.size + 1, 0, none⟩) 0 n)) 40)) (.pointer none) n 41
  simp at this
  exact this
end Go.Proofs.Ybulkblio
