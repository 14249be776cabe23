/-
  bufio.Writer: Available; Write where there is room.
-/
import Derived.Test.YbulkbldsDoorLine
import Derived.Deep.RegionLaw
import Derived.Deep.DeepCutAuto
import Derived.Deep.CutBlock
import Derived.Deep.RegionHeld3
import Derived.Laws.CopyOwn
namespace Go.Proofs.YbulkbldsDoor
open Go.Shelf Go.RowKit

/-- Every block but g is as it was; no block is new. -/
structure Oth (g : Nat) (w w' : World) : Prop where
  os : w'.os = w.os
  tape : w'.tape = w.tape
  output : w'.output = w.output
  size : w'.heap.size = w.heap.size
  block : ∀ k, k ≠ g → w'.heap[k]? = w.heap[k]?

theorem oth_setRow (g : Nat) (w : World) (cs : Array Value) : Oth g w (w.setRow g cs) := ⟨rfl, rfl, rfl, by simp [World.setRow], fun k hk => setRow_other w g k _ hk⟩

theorem oth_drew {g q : Nat} {w w' : World} (h : Oth g (w.drewN q) w') : Oth g w w' := ⟨h.os, h.tape, h.output, h.size, h.block⟩

/-- 'copy' as one step of a region that draws its order. -/
theorem step_copy_at {P : Program} {ops : Array Oper} {o : Oper} {a : Act} {w : World} {K : Act → World → Prop} {Q : Exit → Act → World → Prop} {E : Prop} (hgd : o.guard = none) (d s : Operand) (dT sT : TypeId)
    (ho : o.op = .call { callee := .builtin .copy, args := #[d, s], argTypes := #[dT, sT] }) (elem : TypeId) (hu : P.underlying dT = some (.slice elem)) (hsz : (P.info? elem).map (·.size) = some 1)
    (ad : Addr) (dLen dCap sLen sCap : Nat) (g off : Nat) (hd : a.eval d = .slice (some ⟨g, off, none⟩) dLen dCap) (hs : a.eval s = .slice (some ad) sLen sCap)
    (cur : List Value) (t : TypeId) (hg : w.heap[g]? = some (.cells cur.toArray t (0, 0))) (cs : List Value) (hn : cs.length = Nat.min sLen dLen)
    (hsrc : ∀ j v, cs[j]? = some v → w.cell? (ad.add j) = some v)
    (hfit : off + cs.length ≤ cur.length) (h1 : ∀ v ∈ cs, v.oneCell' = true)
    (h : ∀ w', Hid (w'.heap[g]? = some (.cells (splice cur off cs).toArray t (0, 0))) → Hid (Oth g w w') → K (a.put o.dst (goInt cs.length)) w') :
    if Region.wanted o (yielded ops a.tmps) = true then Oper.wp P o a w K Q else E := by
  have hw : Region.wanted o (yielded ops a.tmps) = true := by simp [Region.wanted, hgd]
  rw [if_pos hw]
  have hrun := run_copy_row (P := P) w dT sT o.type elem g off dLen dCap ad sLen sCap cur.toArray t cs hu hsz hg hn hsrc (by simpa using hfit) h1
  unfold Oper.wp
  simp [execOp, ho, resolve, invoke, builtin, hd, hs, hrun, Result.andThen]
  exact h _ (show _ = _ by simpa [splice] using setRow_heap w g _ _ t _ hg) (show Oth g w _ from oth_setRow g w _)

/-- The bufio.Writer's four cells. -/
def wrc (bb bz n : Nat) (i : Nat) : Value :=
  if i = 0 then .nilIface else if i = 1 then .slice (some ⟨bb, 0, none⟩) 4096 4096 else if i = 2 then .int .i64 n else .iface 22 (.pointer (some ⟨bz, 0, none⟩))

structure Bf (bw bb bz : Nat) (c : List UInt8) (w : World) : Prop where
  wr : w.rowIs bw 125 4 (wrc bb bz c.length)
  bf : ∃ cur : List Value, w.heap[bb]? = some (.cells cur.toArray 5 (0, 0)) ∧ cur.length = 4096 ∧ cur.take c.length = Lib.byteCells c
  ne : bw ≠ bb

/-- All but two blocks are as they were. -/
structure Two (bw bb : Nat) (w w' : World) : Prop where
  os : w'.os = w.os
  tape : w'.tape = w.tape
  output : w'.output = w.output
  size : w'.heap.size = w.heap.size
  block : ∀ k, k ≠ bw → k ≠ bb → w'.heap[k]? = w.heap[k]?

theorem Bf.c0 {bw bb bz : Nat} {c : List UInt8} {w : World} (h : Bf bw bb bz c w) : w.cell? ⟨bw, 0, none⟩ = some .nilIface := h.wr.cell (by omega)
theorem Bf.c1 {bw bb bz : Nat} {c : List UInt8} {w : World} (h : Bf bw bb bz c w) : w.cell? ⟨bw, 1, none⟩ = some (.slice (some ⟨bb, 0, none⟩) 4096 4096) := h.wr.cell (by omega)
theorem Bf.c2 {bw bb bz : Nat} {c : List UInt8} {w : World} (h : Bf bw bb bz c w) : w.cell? ⟨bw, 2, none⟩ = some (.int .i64 c.length) := h.wr.cell (by omega)
theorem Bf.c3 {bw bb bz : Nat} {c : List UInt8} {w : World} (h : Bf bw bb bz c w) : w.cell? ⟨bw, 3, none⟩ = some (.iface 22 (.pointer (some ⟨bz, 0, none⟩))) := h.wr.cell (by omega)

set_option maxRecDepth 100000 in
theorem avail_any (bw bb bz : Nat) (c : List UInt8) (hc : c.length ≤ 4096) (w : World) (h : Bf bw bb bz c w) :
    Calls Ybad.prog 35 #[.pointer (some ⟨bw, 0, none⟩)] w fun e w' => e = .returned (.int .i64 ((4096 - c.length : Nat) : Int)) ∧ ∃ q, w' = w.drewN q := by
  have c1 := h.c1
  have c2 := h.c2
  have hw : IntKind.i64.wrap (4096 - (c.length : Int)) = ((4096 - c.length : Nat) : Int) := by rw [IntKind.wrap_i64]; omega
  go_enter Ybad.func35, Ybad.ntmps35
  go_wp2
  go_quiet (fail)
  go_wp2
  go_ret
  exact ⟨rfl, _, rfl⟩

attribute [local go_sem ↓] hideSlc

theorem slc_from (b n cap : Nat) (h : n < cap) (w : World) : (slc23 (.slice (some ⟨b, 0, none⟩) cap cap) (some (.int .i64 n)) none none).run Ybad.prog w = .ok (.slice (some ⟨b, n, none⟩) (cap - n) (cap - n)) w := by
  have hs : ∀ w, (sizeOf 5).run Ybad.prog w = .ok 1 w := fun _ => by kernel_rfl
  have h1 : ¬ cap = n := by omega
  have h2 : (n : Int) ≤ (cap : Int) := by omega
  unfold slc23 Instr.slice
  simp [go_sem, run_underlying Ybad.underlying23, hs, h1, h2]

theorem bf_next {bw bb bz N : Nat} {c l : List UInt8} {cur : List Value} {w wc : World} (h : Bf bw bb bz c w) (hg : wc.heap[bb]? = some (.cells (splice cur N (Lib.byteCells l)).toArray 5 (0, 0))) (ho : Oth bb w wc) (hlen : cur.length = 4096)
    (hcl : c.length = N) (ht : cur.take c.length = Lib.byteCells c) (hfit : c.length + l.length ≤ 4096) : Bf bw bb bz (c ++ l) (wc.setCell ⟨bw, 2, none⟩ (.int .i64 ((N + l.length : Nat) : Int))) := by
  subst hcl
  have hbl : (Lib.byteCells l).length = l.length := by simp [Lib.byteCells]
  have hbc : (Lib.byteCells c).length = c.length := by simp [Lib.byteCells]
  refine ⟨?_, ⟨splice cur c.length (Lib.byteCells l), ?_, ?_, ?_⟩, h.ne⟩
  · have hr := World.rowIs.of_block h.wr (ho.block bw h.ne)
    refine (hr.set 2 _).congr ?_
    intro i _
    unfold wrc
    by_cases e : i = 2 <;> simp [e]
  · rw [Below.heap_setCell _ _ _ _ (show bb ≠ bw from fun e => h.ne e.symm)]
    exact hg
  · rw [length_splice _ _ _ (by rw [hbl]; omega)]; exact hlen
  · unfold splice
    rw [ht, List.length_append, bytes_append, ← List.append_assoc, List.take_append_of_le_length (by simp [hbl, hbc]), List.take_of_length_le (by simp [hbl, hbc])]

theorem two_next {bw bb : Nat} {w wc : World} (ho : Oth bb w wc) (v : Value) : Two bw bb w (wc.setCell ⟨bw, 2, none⟩ v) :=
  ⟨ho.os, ho.tape, ho.output, by simp [ho.size], fun k h1 h2 => (Below.heap_setCell _ _ _ _ h1).trans (ho.block k h2)⟩

set_option maxRecDepth 100000 in
theorem write_fit (B bw bb bz : Nat) (a : Option Addr) (n cp : Nat) (c l : List UInt8) (w : World) (hown : Owns B (.slice a n cp) l w) (hl : 0 < l.length) (hfit : c.length + l.length ≤ 4096) (h : Bf bw bb bz c w) :
    Calls Ybad.prog 29 #[.pointer (some ⟨bw, 0, none⟩), .slice a n cp] w fun e w' => e = .returned (.tuple #[.int .i64 l.length, .nilIface]) ∧ Bf bw bb bz (c ++ l) w' ∧ Two bw bb w w' := by
  have c0 := h.c0
  have c1 := h.c1
  have c2 := h.c2
  obtain ⟨cur, hcur, hlen, htake⟩ := h.bf
  obtain ⟨ad, rfl, hsrc, hn⟩ : ∃ ad, a = some ad ∧ (∀ j v, (Lib.byteCells l)[j]? = some v → w.cell? (ad.add j) = some v) ∧ n = l.length := by
    obtain ⟨a', c', e⟩ := hown.shape
    injection e with e1 e2 e3
    obtain ⟨_, ⟨h0, h1⟩ | ⟨g, cap, cur', hv, hb, hh, _⟩⟩ := id hown
    · omega
    · injection hv with v1 v2 v3
      exact ⟨_, v1, fun j v hj => World.ownsRow.cells hown (by rw [v1]; rfl) j v hj, e2⟩
  obtain ⟨N, hN⟩ : ∃ N, N = c.length := ⟨_, rfl⟩
  rw [← hN] at c2 hfit
  subst hn
  have hsl := slc_from bb N 4096 (by omega)
  have hlt : ¬ ((l.length : Int) > ((4096 - N : Nat) : Int)) := by omega
  have HH : Hid (Bf bw bb bz c w) := h
  have HN : Hid (N = c.length) := hN
  have HO : Hid (Owns B (.slice (some ad) l.length cp) l w) := hown
  have HS : Hid (∀ j v, (Lib.byteCells l)[j]? = some v → w.cell? (ad.add j) = some v) := hsrc
  have HT : Hid (cur.take c.length = Lib.byteCells c) := htake
  clear h hN hown hsrc htake
  go_enter Ybad.func29, Ybad.ntmps29
  go_wp2_with fail
  refine wp_loop_rounds 1 ?_
  rw [rounds_succ]
  go_wp2_with (go_at_call 35; refine (avail_any bw bb bz c (by rw [← HN.out]; omega) _ HH.out).mono ?_)
  rintro e w1 ⟨rfl, q, rfl⟩
  rw [← HN.out]
  go_wp2_with fail
  have hbl : (Lib.byteCells l).length = l.length := by simp [Lib.byteCells]
  have hmin : Nat.min l.length (4096 - N) = l.length := Nat.min_eq_left (by omega)
  go_cut [7] from 83 to 84 (fun s7 wx => s7 = .int .i64 (l.length : Int) ∧ wx.heap[bb]? = some (.cells (splice cur N (Lib.byteCells l)).toArray 5 (0, 0)) ∧ Oth bb w wx)
  case first =>
    go_region_law (refine step_copy_at rfl (.tmp 80) (.tmp 81) 23 23 rfl 5 Ybad.underlying23 (by kernel_rfl) ad (4096 - N) (4096 - N) l.length cp bb N rfl rfl cur 5 hcur (Lib.byteCells l) (by rw [hbl, hmin]) HS.out (by rw [hbl]; omega) (fun v hv => by simp only [Lib.byteCells, List.mem_map] at hv; obtain ⟨_, _, rfl⟩ := hv; rfl) ?_; intro w4 hg4 ho4)
    all_goals
      go_wp2_with fail
      go_meet
      case rel => exact ⟨rfl, hg4.out, oth_drew ho4.out⟩
  case rest =>
    obtain ⟨rfl, hg4, ho4⟩ := hcut
    have hne := HH.out.ne
    have k2 : wc.cell? ⟨bw, 2, none⟩ = some (.int .i64 (N : Int)) := (World.cell?_of_block (w := w) (ho4.block bw hne)).trans c2
    have kf : wc.frozen? ⟨bw, 2, none⟩ = false := (World.frozen?_of_block (w := w) (ho4.block bw hne)).trans (HH.out.wr.frozen 2)
    have hsum : IntKind.i64.wrap ((N : Int) + (l.length : Int)) = ((N + l.length : Nat) : Int) := by rw [IntKind.wrap_i64]; omega
    have HG : Hid (wc.heap[bb]? = some (.cells (splice cur N (Lib.byteCells l)).toArray 5 (0, 0))) := hg4
    have HOt : Hid (Oth bb w wc) := ho4
    clear hg4 ho4 c0 c1 c2 hsl hcur
    go_wp2_with fail
    go_ret2
    refine ⟨by simp, bf_next HH.out HG.out HOt.out hlen HN.out.symm HT.out (by rw [← HN.out]; omega), two_next HOt.out _⟩
end Go.Proofs.YbulkbldsDoor
