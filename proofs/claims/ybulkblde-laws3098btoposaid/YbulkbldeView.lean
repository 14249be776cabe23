/-
  CONTRACTS of the view search's functions WHERE THERE ARE NO BLOCKS: level, propagate, pick, solve, backtrack, clearHeap; then 'start' at an order that is given.
-/
import Derived.Test.YbulkbldeProg
import Derived.Test.YbulkbldeBase
import Derived.WalkKit
import Derived.WalkSpells
import Derived.WalkLawsBesides
import Derived.Deep.OwnRows
import Derived.Deep.QuietTactic
import Derived.BigQuiet
namespace Go.Proofs.Ybulkblde
open Go.RowKit

set_option maxHeartbeats 400000 in
theorem level_any (b : Nat) (w : World) (h : w.cell? ⟨b, 36, none⟩ = some (.slice none 0 0)) :
    Calls Yba.prog 43 #[.pointer (some ⟨b, 0, none⟩)] w fun e w' => e = .returned (.int .i64 0) ∧ w' = w := by
  go_enter Yba.func43, Yba.ntmps43
  go_wp2
  go_ret
  exact ⟨rfl, rfl⟩

set_option maxHeartbeats 400000 in
theorem propagate_any (b : Nat) (w : World) (h1 : w.cell? ⟨b, 37, none⟩ = some (.int .i64 0)) (h2 : w.cell? ⟨b, 35, none⟩ = some (.slice none 0 0))
    (h3 : w.cell? ⟨b, 52, none⟩ = some (.slice none 0 0)) (h4 : w.cell? ⟨b, 50, none⟩ = some (.slice none 0 0)) :
    Calls Yba.prog 33 #[.pointer (some ⟨b, 0, none⟩)] w fun e w' => e = .returned (.slice none 0 0) ∧ ∃ n, w' = w.drewN n := by
  go_enter Yba.func33, Yba.ntmps33
  go_wp2
  refine wp_loop_rounds 1 ?_; rw [rounds_succ]
  go_wp2
  refine wp_loop_rounds 1 ?_; rw [rounds_succ]
  go_wp2
  go_region
  all_goals go_wp2
  all_goals go_ret
  all_goals exact ⟨rfl, 1, rfl⟩

set_option maxHeartbeats 400000 in
theorem pick_any (b : Nat) (w : World) (h : w.cell? ⟨b, 40, none⟩ = some (.slice none 0 0)) :
    Calls Yba.prog 38 #[.pointer (some ⟨b, 0, none⟩)] w fun e w' => e = .returned (.int .i32 (-1)) ∧ w' = w := by
  go_enter Yba.func38, Yba.ntmps38
  go_wp2
  refine wp_loop_rounds 1 ?_; rw [rounds_succ]
  go_wp2
  go_ret
  exact ⟨rfl, rfl⟩

set_option maxHeartbeats 400000 in
theorem solve_any (b : Nat) (w : World) (h1 : w.cell? ⟨b, 37, none⟩ = some (.int .i64 0)) (h2 : w.cell? ⟨b, 35, none⟩ = some (.slice none 0 0))
    (h3 : w.cell? ⟨b, 52, none⟩ = some (.slice none 0 0)) (h4 : w.cell? ⟨b, 50, none⟩ = some (.slice none 0 0)) (h5 : w.cell? ⟨b, 40, none⟩ = some (.slice none 0 0)) :
    Calls Yba.prog 25 #[.pointer (some ⟨b, 0, none⟩), .int .i64 0] w fun e w' => e = .returned (.bool true) ∧ ∃ n, w' = w.drewN n := by
  go_enter Yba.func25, Yba.ntmps25
  go_wp2_with fail
  refine wp_loop_rounds 1 ?_; rw [rounds_succ]
  go_wp2_with fail
  refine (propagate_any b w h1 h2 h3 h4).mono ?_
  rintro e w' ⟨rfl, n, rfl⟩
  go_wp2_with fail
  refine (pick_any b (w.drewN n) (by simpa using h5)).mono ?_
  rintro e w' ⟨rfl, rfl⟩
  go_wp2_with fail
  go_ret
  exact ⟨rfl, n, rfl⟩

set_option maxRecDepth 100000 in
set_option maxHeartbeats 400000 in
theorem backtrack_any (b : Nat) (w : World) (h : w.cell? ⟨b, 36, none⟩ = some (.slice none 0 0)) :
    Calls Yba.prog 26 #[.pointer (some ⟨b, 0, none⟩), .int .i64 0] w fun e w' => e = .returned (.tuple #[]) ∧ w' = w := by
  go_enter Yba.func26, Yba.ntmps26
  go_wp2_with (go_at_call 43; refine (level_any b _ (by assumption)).mono ?_; rintro e w' ⟨rfl, rfl⟩)
  first | go_end0 | refine bodyPost_ret (results_none rfl _ _ _) rfl ?_
  exact ⟨rfl, rfl⟩

set_option maxHeartbeats 400000 in
theorem clearHeap_any (b : Nat) (w : World) (h : w.cell? ⟨b, 40, none⟩ = some (.slice none 0 0)) (hf : w.frozen? ⟨b, 40, none⟩ = false) :
    Calls Yba.prog 27 #[.pointer (some ⟨b, 0, none⟩)] w fun e w' => e = .returned (.tuple #[]) ∧ w' = w.setCell ⟨b, 40, none⟩ (.slice none 0 0) := by
  go_enter Yba.func27, Yba.ntmps27
  go_wp2
  refine wp_loop_rounds 1 ?_; rw [rounds_succ]
  go_wp2
  go_end0
  exact ⟨rfl, rfl⟩

/-- The search's struct at block b, no blocks: the fields that 'start' reads. -/
structure Vs (w : World) (b bo bn n : Nat) (ev : Int) (fa : Option Addr) (fl fc : Nat) : Prop where
  c0 : w.cell? ⟨b, 0, none⟩ = some (.slice none 0 0)
  c35 : w.cell? ⟨b, 35, none⟩ = some (.slice none 0 0)
  c36 : w.cell? ⟨b, 36, none⟩ = some (.slice none 0 0)
  c37 : w.cell? ⟨b, 37, none⟩ = some (.int .i64 0)
  c38 : w.cell? ⟨b, 38, none⟩ = some (.slice fa fl fc)
  c40 : w.cell? ⟨b, 40, none⟩ = some (.slice none 0 0)
  c41 : ∃ v, w.cell? ⟨b, 41, none⟩ = some v
  c42 : ∃ v, w.cell? ⟨b, 42, none⟩ = some v
  c43 : w.cell? ⟨b, 43, none⟩ = some (.int .i64 ev)
  c44 : w.cell? ⟨b, 44, none⟩ = some (.slice (some ⟨bo, 0, none⟩) n n)
  c45 : w.cell? ⟨b, 45, none⟩ = some (.slice (some ⟨bn, 0, none⟩) n n)
  c50 : w.cell? ⟨b, 50, none⟩ = some (.slice none 0 0)
  c52 : w.cell? ⟨b, 52, none⟩ = some (.slice none 0 0)
  fz : ∀ o, w.frozen? ⟨b, o, none⟩ = false

theorem Vs.of_block {w w' : World} {b bo bn n : Nat} {ev : Int} {fa : Option Addr} {fl fc : Nat} (h : Vs w b bo bn n ev fa fl fc) (e : w'.heap[b]? = w.heap[b]?) : Vs w' b bo bn n ev fa fl fc := by
  have hc : ∀ o, w'.cell? ⟨b, o, none⟩ = w.cell? ⟨b, o, none⟩ := fun o => World.cell?_of_block (w := w) e
  have hf : ∀ o, w'.frozen? ⟨b, o, none⟩ = w.frozen? ⟨b, o, none⟩ := fun o => World.frozen?_of_block (w := w) e
  obtain ⟨a0, a1, a2, a3, a4, a5, a6, a7, a8, a9, a10, a11, a12, a13⟩ := h
  exact ⟨by rw [hc]; exact a0, by rw [hc]; exact a1, by rw [hc]; exact a2, by rw [hc]; exact a3, by rw [hc]; exact a4, by rw [hc]; exact a5, by rw [hc]; exact a6, by rw [hc]; exact a7, by rw [hc]; exact a8, by rw [hc]; exact a9, by rw [hc]; exact a10, by rw [hc]; exact a11, by rw [hc]; exact a12, fun o => by rw [hf]; exact a13 o⟩

/-- 'start', its first loop after k rounds. -/
structure SRel (w : World) (b bs bo bn n : Nat) (p : Nat → Nat) (B k : Nat) (wr : World) : Prop where
  bel : Below B w wr
  eb : wr.heap[b]? = w.heap[b]?
  es : wr.heap[bs]? = w.heap[bs]?
  ord : ∃ f, wr.rowIs bo 21 n f ∧ ∀ i, i < k → f (p i) = .int .i32 i
  at_ : ∃ g, wr.rowIs bn 21 n g ∧ ∀ i, i < k → g i = .int .i32 (p i)

theorem SRel.step {w : World} {b bs bo bn n : Nat} {p : Nat → Nat} {B k : Nat} {wr : World} (h : SRel w b bs bo bn n p B k wr) (hk : k < n)
    (hinj : ∀ i j, i < n → j < n → p i = p j → i = j)
    (d2 : b ≠ bo) (d3 : b ≠ bn) (d4 : bs ≠ bo) (d5 : bs ≠ bn) (d6 : bo ≠ bn) (hB : B ≤ b ∧ B ≤ bo ∧ B ≤ bn) :
    SRel w b bs bo bn n p B (k + 1) ((wr.setCell ⟨bo, p k, none⟩ (.int .i32 k)).setCell ⟨bn, k, none⟩ (.int .i32 (p k))) := by
  obtain ⟨bel, eb, es, ⟨f, f1, f2⟩, ⟨g, g1, g2⟩⟩ := h
  refine ⟨(bel.setCell hB.2.1 _).setCell hB.2.2 _, ?_, ?_, ?_, ?_⟩
  · rw [Below.heap_setCell _ _ _ _ d3, Below.heap_setCell _ _ _ _ d2, eb]
  · rw [Below.heap_setCell _ _ _ _ d5, Below.heap_setCell _ _ _ _ d4, es]
  · refine ⟨_, (f1.set (p k) _).setOther d6 _, ?_⟩
    intro i hi
    by_cases e : i = k
    · subst e; simp
    · have : p i ≠ p k := fun h => e (hinj i k (by omega) hk h)
      simp only [if_neg this]
      exact f2 i (by omega)
  · refine ⟨_, (g1.setOther (Ne.symm d6) _).set k _, ?_⟩
    intro i hi
    by_cases e : i = k
    · subst e; simp
    · simp only [if_neg e]
      exact g2 i (by omega)

/-- What 'start' leaves where it answers true. -/
structure Started (w : World) (b bs bo bn n : Nat) (ev : Int) (fa : Option Addr) (fc : Nat) (p : Nat → Nat) (B : Nat) (w' : World) : Prop where
  bel : Below B w w'
  es : w'.heap[bs]? = w.heap[bs]?
  ord : ∃ f, w'.rowIs bo 21 n f ∧ ∀ i, i < n → f (p i) = .int .i32 i
  at_ : ∃ g, w'.rowIs bn 21 n g ∧ ∀ i, i < n → g i = .int .i32 (p i)
  c38 : w'.cell? ⟨b, 38, none⟩ = some (.slice fa 0 fc)
  c41 : w'.cell? ⟨b, 41, none⟩ = some (.int .i64 ev)
  c42 : w'.cell? ⟨b, 42, none⟩ = some (.int .i64 1)
  c44 : w'.cell? ⟨b, 44, none⟩ = some (.slice (some ⟨bo, 0, none⟩) n n)
  c45 : w'.cell? ⟨b, 45, none⟩ = some (.slice (some ⟨bn, 0, none⟩) n n)

theorem SRel.end_ {w : World} {b bs bo bn n : Nat} {p : Nat → Nat} {B : Nat} {wr : World} {ev : Int} {fa : Option Addr} {fl fc : Nat} (h : SRel w b bs bo bn n p B n wr) (v : Vs wr b bo bn n ev fa fl fc)
    (d1 : b ≠ bs) (d2 : b ≠ bo) (d3 : b ≠ bn) (hB : B ≤ b) (m : Nat) :
    Started w b bs bo bn n ev fa fc p B (((((wr.setCell ⟨b, 41, none⟩ (.int .i64 ev)).setCell ⟨b, 42, none⟩ (.int .i64 1)).drewN m).setCell ⟨b, 40, none⟩ (.slice none 0 0)).setCell ⟨b, 38, none⟩ (.slice fa 0 fc)) := by
  obtain ⟨bel, eb, es, ⟨f, f1, f2⟩, ⟨g, g1, g2⟩⟩ := h
  obtain ⟨a0, a35, a36, a37, a38, a40, ⟨x41, a41⟩, ⟨x42, a42⟩, a43, a44, a45, a50, a52, fz⟩ := v
  have hh : ∀ c, c ≠ b → (((((wr.setCell ⟨b, 41, none⟩ (.int .i64 ev)).setCell ⟨b, 42, none⟩ (.int .i64 1)).drewN m).setCell ⟨b, 40, none⟩ (.slice none 0 0)).setCell ⟨b, 38, none⟩ (.slice fa 0 fc)).heap[c]? = wr.heap[c]? := by
    intro c hc
    rw [Below.heap_setCell _ _ _ _ hc, Below.heap_setCell _ _ _ _ hc]
    show ((wr.setCell ⟨b, 41, none⟩ (.int .i64 ev)).setCell ⟨b, 42, none⟩ (.int .i64 1)).heap[c]? = _
    rw [Below.heap_setCell _ _ _ _ hc, Below.heap_setCell _ _ _ _ hc]
  refine ⟨((below_drewN ((bel.setCell hB _).setCell hB _) m).setCell hB _).setCell hB _, ?_, ⟨f, f1.of_block (hh _ (Ne.symm d2)), f2⟩, ⟨g, g1.of_block (hh _ (Ne.symm d3)), g2⟩, ?_, ?_, ?_, ?_, ?_⟩
  · rw [hh _ (Ne.symm d1), es]
  · simp [go_sem, a38]
  · simp [go_sem, a41]
  · simp [go_sem, a42]
  · simp [go_sem, a44]
  · simp [go_sem, a45]

set_option maxRecDepth 100000 in
set_option maxHeartbeats 1000000 in
theorem start_serial (b bs bo bn n : Nat) (ev : Int) (fa : Option Addr) (fl fc : Nat) (p : Nat → Nat) (B : Nat) (w : World) (hn : n ≤ 1024)
    (hv : Vs w b bo bn n ev fa fl fc) (hs : w.rowIs bs 3 n (fun i => .int .i64 (p i))) (hp : ∀ i, i < n → p i < n) (hinj : ∀ i j, i < n → j < n → p i = p j → i = j)
    (f0 g0 : Nat → Value) (ho : w.rowIs bo 21 n f0) (hnn : w.rowIs bn 21 n g0) (d1 : b ≠ bs) (d2 : b ≠ bo) (d3 : b ≠ bn) (d4 : bs ≠ bo) (d5 : bs ≠ bn) (d6 : bo ≠ bn)
    (hB : B ≤ b ∧ B ≤ bo ∧ B ≤ bn) (hf : fl ≤ fc ∧ fc ≤ maxLen) :
    Calls Yba.prog 11 #[.pointer (some ⟨b, 0, none⟩), .slice (some ⟨bs, 0, none⟩) n n] w fun e w' => e = .returned (.bool true) ∧ Started w b bs bo bn n ev fa fc p B w' := by
  have hnl := fun w (x : Addr) (l c : Nat) => Lib.run_eql_slice_nil (P := Yba.prog) w 34 3 (some x) l c 0 0 Yba.underlying34
  have h0 : SRel w b bs bo bn n p B 0 w := ⟨Below.refl _ _, rfl, rfl, ⟨f0, ho, fun i h => absurd h (by omega)⟩, ⟨g0, hnn, fun i h => absurd h (by omega)⟩⟩
  go_enter Yba.func11, Yba.ntmps11
  go_wp2_with fail
  go_loopw [33] (fun i wr => ∃ k : Nat, k ≤ n ∧ i = .int .i64 k ∧ SRel w b bs bo bn n p B k wr) (fun i _ => n - (intOf i).toNat)
  case atStart => exact ⟨0, Nat.zero_le _, rfl, h0⟩
  case round =>
    obtain ⟨k, hk, rfl, R⟩ := hrel
    clear h0
    have v' := hv.of_block R.eb
    by_cases hlt : k < n
    · have c1 := (hs.of_block R.es).cell hlt
      have c44 := v'.c44
      have c45 := v'.c45
      have hpk := hp k hlt
      obtain ⟨f, f1, f2⟩ := R.ord
      have o1 := f1.cell hpk
      have o2 := f1.frozen (p k)
      obtain ⟨g, q1, q2⟩ := R.at_
      have g1 := q1.cell hlt
      have g2 := q1.frozen k
      have R' := R.step hlt hinj d2 d3 d4 d5 d6 hB
      clear hs hp hinj ho hnn hv v' f1 f2 q1 q2
      go_wp2_with fail
      go_roundw
      case rel => exact ⟨k + 1, by omega, by go_num, R'⟩
      case measure => simp [intOf]; omega
    · obtain rfl : k = n := by omega
      have R' := fun m => R.end_ v' d1 d2 d3 hB.1 m
      obtain ⟨a0, a35, a36, a37, a38, a40, ⟨x41, a41⟩, ⟨x42, a42⟩, a43, a44, a45, a50, a52, fz⟩ := v'
      have z38 := fz 38
      have z40 := fz 40
      have z41 := fz 41
      have z42 := fz 42
      have hf1 := hf.1
      have hf2 := hf.2
      unfold maxLen at hf2
      clear fz hs hp hinj ho hnn hv hf
      go_wp2_with fail
      refine wp_loop_rounds 1 ?_; rw [rounds_succ]
      go_wp2_with fail
      refine (solve_any b _ (by simp [go_sem, a37]) (by simp [go_sem, a35]) (by simp [go_sem, a52]) (by simp [go_sem, a50]) (by simp [go_sem, a40])).mono ?_
      rintro e w' ⟨rfl, m, rfl⟩
      go_wp2_with fail
      refine (backtrack_any b _ (by simp [go_sem, a36])).mono ?_
      rintro e w' ⟨rfl, rfl⟩
      go_wp2_with fail
      refine (clearHeap_any b _ (by simp [go_sem, a40]) (by simp [go_sem, z40])).mono ?_
      rintro e w' ⟨rfl, rfl⟩
      go_wp2_with fail
      go_ret
      exact ⟨rfl, R' m⟩

/-- The cells of a view search as the laws lay it: out, ord, nodeAt, every, facts. -/
def vsCells (x6 x31 x32 x30 x25 : Value) : Array Value := #[.slice none 0 0, .slice none 0 0, .slice none 0 0, .slice none 0 0, .slice none 0 0, .slice none 0 0, x6, .slice none 0 0, .pointer none, .slice none 0 0, .slice none 0 0, .slice none 0 0, .slice none 0 0, .int .i64 0, .slice none 0 0, .slice none 0 0, .map none, .slice none 0 0, .slice none 0 0, .slice none 0 0, .slice none 0 0, .slice none 0 0, .slice none 0 0, .slice none 0 0, .slice none 0 0, .slice none 0 0, .slice none 0 0, .slice none 0 0, .slice none 0 0, .slice none 0 0, .int .i64 0, .int .i64 0, .slice none 0 0, .int .u32 0, .slice none 0 0, .slice none 0 0, .slice none 0 0, .int .i64 0, x25, .slice none 0 0, .slice none 0 0, .int .i64 0, .int .i64 0, x30, x31, x32, .int .i32 0, .slice none 0 0, .slice none 0 0, .slice none 0 0, .slice none 0 0, .slice none 0 0, .slice none 0 0, .slice none 0 0, .bool false, .slice none 0 0, .slice none 0 0, .slice none 0 0, .int .u32 0, .slice none 0 0, .int .u32 0, .slice none 0 0, .slice none 0 0, .slice none 0 0, .slice none 0 0, .slice none 0 0, .slice none 0 0, .slice none 0 0, .slice none 0 0, .int .i64 0, .int .i64 0]

/-- 'build' at the search's type, kept from the walk's own unfolding (71 cells): 'attribute [local go_sem ↓] hide63' in a walk's text. -/
def bld63 (parts : Array (Nat × Value)) := Instr.build 63 parts
theorem hide63 (parts : Array (Nat × Value)) : Instr.build 63 parts = bld63 parts := rfl

set_option maxRecDepth 100000 in
theorem build_serial (a b c : Addr) (n : Nat) (ev : Int) (w : World) : (bld63 #[(6, .slice (some a) n n), (31, .slice (some b) n n), (32, .slice (some c) n n), (30, .int .i64 ev)]).run Yba.prog w = .ok (.agg (vsCells (.slice (some a) n n) (.slice (some b) n n) (.slice (some c) n n) (.int .i64 ev) (.slice none 0 0))) w := by kernel_rfl
set_option maxRecDepth 100000 in
theorem box_vs (x6 x31 x32 x30 x25 : Value) (w : World) : (Instr.box 63 (.agg (vsCells x6 x31 x32 x30 x25))).run Yba.prog w = .ok (.pointer (some ⟨w.heap.size, 0, none⟩)) (w.alloc (.cells (vsCells x6 x31 x32 x30 x25) 63)) := by kernel_rfl
theorem vs_new {w : World} {b bo bn n : Nat} {ev : Int} {x6 : Value} {fa : Option Addr} {fl fc : Nat}
    (h : w.heap[b]? = some (.cells (vsCells x6 (.slice (some ⟨bo, 0, none⟩) n n) (.slice (some ⟨bn, 0, none⟩) n n) (.int .i64 ev) (.slice fa fl fc)) 63 (0, 0))) : Vs w b bo bn n ev fa fl fc := by
  have hc := cell_whole h
  constructor
  case fz => exact frozen_whole h
  case c41 => exact ⟨_, by rw [hc]; rfl⟩
  case c42 => exact ⟨_, by rw [hc]; rfl⟩
  all_goals (rw [hc]; rfl)
end Go.Proofs.Ybulkblde
