/-
  THE NODE SET (a Fenwick tree): 'change', 'upTo' at -1, 'nth' at 0, 'after' at -1.
-/
import Derived.Test.YbulkbldeView
import Derived.Test.YbulkbldeFen
import Derived.Deep.DeepCutAuto
import Derived.Deep.CutBlock
namespace Go.Proofs.Ybulkblde
open Go.RowKit

/-- From w to w' no block that was there has turned but those of S. -/
structure But (S : List Nat) (w w' : World) : Prop where
  os : w'.os = w.os
  tape : w'.tape = w.tape
  output : w'.output = w.output
  size : w.heap.size ≤ w'.heap.size
  block : ∀ k, k < w.heap.size → k ∉ S → w'.heap[k]? = w.heap[k]?

theorem But.refl (S : List Nat) (w : World) : But S w w := ⟨rfl, rfl, rfl, Nat.le_refl _, fun _ _ _ => rfl⟩
theorem But.trans {S : List Nat} {a b c : World} (h : But S a b) (k : But S b c) : But S a c :=
  ⟨k.os.trans h.os, k.tape.trans h.tape, k.output.trans h.output, Nat.le_trans h.size k.size, fun j hj hn => (k.block j (by have := h.size; omega) hn).trans (h.block j hj hn)⟩
theorem But.mono {S S' : List Nat} {a b : World} (h : But S a b) (hs : ∀ x, x ∈ S → x ∈ S') : But S' a b :=
  ⟨h.os, h.tape, h.output, h.size, fun j hj hn => h.block j hj (fun hx => hn (hs _ hx))⟩
/-- a block that is not there yet need not be named -/
theorem But.drop {S S' : List Nat} {a b : World} (h : But S a b) (hs : ∀ x, x ∈ S → x < a.heap.size → x ∈ S') : But S' a b :=
  ⟨h.os, h.tape, h.output, h.size, fun j hj hn => h.block j hj (fun hx => hn (hs _ hx hj))⟩
theorem But.alloc {S : List Nat} {a b : World} (h : But S a b) (o : Obj) : But S a (b.alloc o) :=
  h.trans ⟨rfl, rfl, rfl, by simp, fun k hk _ => Below.heap_alloc _ _ _ hk⟩
theorem But.set {S : List Nat} {a b : World} (h : But S a b) {g : Nat} (hg : g ∈ S) (i : Nat) (v : Value) : But S a (b.setCell ⟨g, i, none⟩ v) :=
  h.trans ⟨rfl, rfl, rfl, by simp [World.setCell], fun k _ hn => Below.heap_setCell _ _ _ _ (fun e => hn (e ▸ hg))⟩
theorem But.drewN {S : List Nat} {a b : World} (h : But S a b) (m : Nat) : But S a (b.drewN m) :=
  h.trans ⟨rfl, rfl, rfl, by simp, fun k _ _ => rfl⟩
theorem But.below {S : List Nat} {a b : World} (h : But S a b) {B : Nat} (hB : B ≤ a.heap.size) (hs : ∀ x, x ∈ S → B ≤ x) : Below B a b :=
  ⟨h.os, h.tape, h.output, h.size, fun k hk => h.block k (by omega) (fun hx => by have := hs _ hx; omega)⟩

def ints (t : Nat → Int) : Nat → Value := fun j => .int .i64 (t j)

theorem land_lb : ∀ i : Nat, i < 256 → bits .and .i64 (i : Int) (-(i : Int)) = (lb i : Int) := by decide +kernel

/-- the set's value -/
def nsv (bt n : Nat) (top : Int) : Value := .agg #[.slice (some ⟨bt, 0, none⟩) (n + 1) (n + 1), .int .i64 top]

structure CRel (w : World) (bt n : Nat) (t : Nat → Int) (m : Nat) (d : Int) (i : Nat) (wr : World) : Prop where
  but : But [bt] w wr
  row : ∃ t', wr.rowIs bt 3 (n + 1) (ints t') ∧ Chg n t m d i t'

set_option maxRecDepth 100000 in
set_option maxHeartbeats 1000000 in
theorem change_any (bt n : Nat) (top : Int) (t : Nat → Int) (F : Nat → Bool) (m : Nat) (b : Bool) (d : Int) (hd : d = if b then 1 else -1) (w : World) (hn : n ≤ 255) (hm : m < n) (hF : Fen n F t) (hb : F m = !b)
    (row : w.rowIs bt 3 (n + 1) (ints t)) :
    Calls Yba.prog 30 #[nsv bt n top, .int .i64 m, .int .i64 d] w fun e w' => e = .returned (.tuple #[]) ∧ But [bt] w w' ∧ ∃ t', w'.rowIs bt 3 (n + 1) (ints t') ∧ Fen n (put F m b) t' := by
  have hbt : bt < w.heap.size := row.lt
  have h0 : ∀ o, CRel (w.alloc o) bt n t m d (m + 1) (w.alloc o) := fun o => ⟨But.refl _ _, t, row.alloc o, Chg.start (by omega)⟩
  unfold nsv
  go_enter Yba.func30, Yba.ntmps30
  go_wp2_with fail
  go_loopw [6] (fun i wr => ∃ k : Nat, k ≤ 510 ∧ 1 ≤ k ∧ i = .int .i64 k ∧ CRel (w.alloc (.cells #[.slice (some ⟨bt, 0, none⟩) (n + 1) (n + 1), .int .i64 top] 88)) bt n t m d k wr) (fun i _ => 510 - (intOf i).toNat)
  case atStart => exact ⟨m + 1, by omega, by omega, by go_num, h0 _⟩
  case round =>
    obtain ⟨k, hk, hk1, rfl, R⟩ := hrel
    obtain ⟨t', r1, r2⟩ := R.row
    have c0 : wr.cell? ⟨w.heap.size, 0, none⟩ = some (.slice (some ⟨bt, 0, none⟩) (n + 1) (n + 1)) := by
      have e := R.but.block w.heap.size (by simp) (by simp; omega)
      rw [World.cell?_of_block (w := w.alloc _) e, World.cell?_alloc_new]; rfl
    by_cases hlt : k ≤ n
    · have hcell := r1.cell (i := k) (by omega)
      have hfz := r1.frozen k
      have hbd := r2.bound hn hF k hk1 hlt (by omega)
      have hland := land_lb k (by omega)
      have hlb := lbA k (by omega) hk1
      have R2 : CRel (w.alloc (.cells #[.slice (some ⟨bt, 0, none⟩) (n + 1) (n + 1), .int .i64 top] 88)) bt n t m d (k + lb k) (wr.setCell ⟨bt, k, none⟩ (.int .i64 (t' k + d))) := by
        refine ⟨R.but.set (by simp) _ _, _, (r1.set k _).congr ?_, r2.step hn hlt⟩
        intro i hi
        unfold ints
        by_cases e : i = k <;> simp [e]
      have hd1 : -1 ≤ d ∧ d ≤ 1 := by subst hd; cases b <;> decide
      obtain ⟨q1, q2⟩ := hd1
      have q3 : 0 ≤ t' k := by omega
      have q4 : t' k ≤ 255 := by omega
      have hlt' : (k : Int) < n + 1 := by omega
      clear h0 R r1 r2 hF hd hb hbd
      simp only [ints] at hcell
      go_wp2_with fail
      go_roundw
      case rel => exact ⟨k + lb k, by omega, by omega, by go_num, R2⟩
      case measure => simp [intOf]; omega
    · have hge : ¬ (k : Int) < n + 1 := by omega
      have hend := Chg.end_ hn hF hb (hd ▸ r2) (by omega)
      have hbut := ((But.refl [bt] w).alloc _).trans R.but
      clear hd hb hF r2 h0 R
      go_wp2_with fail
      go_end0
      exact ⟨rfl, hbut, t', r1, hend⟩

set_option maxRecDepth 100000 in
set_option maxHeartbeats 1000000 in
theorem upTo_any (x : Value) (top : Int) (w : World) :
    Calls Yba.prog 75 #[.agg #[x, .int .i64 top], .int .i64 (-1)] w fun e w' => e = .returned (.int .i64 0) ∧ But [] w w' := by
  go_enter Yba.func75, Yba.ntmps75
  go_wp2_with fail
  refine wp_loop_rounds 1 ?_; rw [rounds_succ]
  go_wp2_with fail
  go_ret
  exact ⟨rfl, (But.refl _ _).alloc _⟩

theorem pow_half : ∀ e, e ≤ 8 → (2 ^ (e + 1) : Nat) / 2 = 2 ^ e := by
  intro e _
  rw [Nat.pow_succ]; omega

/-- the step of the search at e: 2^e / 2 -/
def stp (e : Nat) : Nat := 2 ^ e / 2

set_option maxRecDepth 100000 in
set_option maxHeartbeats 1000000 in
theorem nth_any (bt n e0 : Nat) (t : Nat → Int) (F : Nat → Bool) (q : Nat) (w : World) (hn : n ≤ 255) (he : e0 ≤ 8) (hF : Fen n F t) (hq : IsLow F n q) (hne : n < 2 ^ e0)
    (row : w.rowIs bt 3 (n + 1) (ints t)) :
    Calls Yba.prog 74 #[nsv bt n (stp e0), .int .i64 0] w fun e w' => e = .returned (.int .i64 (if q = n then (-1 : Int) else q)) ∧ But [] w w' := by
  have hbt : bt < w.heap.size := row.lt
  have h0 : Nth F n q e0 0 := ⟨hq, by simp, by omega, by have := hq.le; omega⟩
  have hbx : ∀ o, But [] w (w.alloc o) := fun o => (But.refl _ _).alloc _
  have row' := fun o => row.alloc o
  have hbt' : bt ≠ w.heap.size := by omega
  unfold nsv
  go_enter Yba.func74, Yba.ntmps74
  go_wp2_with fail
  go_loopw [5, 6, 1] (fun p s k wr => ∃ (pp ee : Nat), ee ≤ 8 ∧ p = .int .i64 pp ∧ s = .int .i64 (stp ee) ∧ k = .int .i64 0 ∧ Nth F n q ee pp ∧ wr = (w.alloc (.cells #[.slice (some ⟨bt, 0, none⟩) (n + 1) (n + 1), .int .i64 (stp e0)] 88))) (fun _ s _ _ => (intOf s).toNat)
  case atStart => exact ⟨0, e0, he, rfl, rfl, rfl, h0, rfl⟩
  case round =>
    obtain ⟨p, e, he', rfl, rfl, rfl, N, rfl⟩ := hrel
    have c0 : (w.alloc (.cells #[.slice (some ⟨bt, 0, none⟩) (n + 1) (n + 1), .int .i64 (stp e0)] 88)).cell? ⟨w.heap.size, 0, none⟩ = some (.slice (some ⟨bt, 0, none⟩) (n + 1) (n + 1)) := by
      rw [World.cell?_alloc_new]; rfl
    have hb := hbx (.cells #[.slice (some ⟨bt, 0, none⟩) (n + 1) (n + 1), .int .i64 (stp e0)] 88)
    have rr := row' (.cells #[.slice (some ⟨bt, 0, none⟩) (n + 1) (n + 1), .int .i64 (stp e0)] 88)
    generalize w.alloc (.cells #[.slice (some ⟨bt, 0, none⟩) (n + 1) (n + 1), .int .i64 (stp e0)] 88) = W at c0 hb rr ⊢
    have hpn : p ≤ n := by have := N.lo; have := hq.le; omega
    cases e with
    | zero =>
      have hz : stp 0 = 0 := rfl
      have hpq := N.end_
      subst hpq
      clear h0 hbx row' hF hq row N
      by_cases hc : p = n
      · subst hc
        go_wp2_with fail
        go_ret
        exact ⟨by simp, hb⟩
      · have hci : ¬ (p : Int) = n := by omega
        go_wp2_with fail
        go_ret
        exact ⟨by simp, hb⟩
    | succ e =>
      obtain ⟨S1, S2, S3⟩ := N.step hn hF (by omega)
      have hs1 : stp (e + 1) = 2 ^ e := pow_half e (by omega)
      have hs2 : stp e = 2 ^ e / 2 := rfl
      have hs3 : 2 ^ e ≤ 128 := by
        have : e ≤ 7 := by omega
        exact Nat.le_trans (Nat.pow_le_pow_right (by omega) this) (by decide)
      have hs4 : 0 < 2 ^ e := Nat.pow_pos (by omega)
      generalize hs : 2 ^ e = s at S1 S2 S3 hs1 hs2 hs3 hs4
      rw [hs1]
      have hshr : Op.shift .shr .i64 (s : Int) .u64 1 = pure (.int .i64 (stp e : Int)) := by
        rw [shift_shr .i64 .u64 (s : Int) 1 (by decide) (by decide)]
        congr 2
        simp; omega
      have hle : stp e < s := by omega
      have hst : Hid ((s : Int) / 2 = (stp e : Int)) := show (s : Int) / 2 = (stp e : Int) by omega
      clear h0 hbx row' hq row N
      by_cases hc1 : n < p + s
      · have hci : ¬ (p : Int) + s < n + 1 := by omega
        have N' := S1 hc1
        clear S1 S2 S3
        go_wp2_with fail
        go_roundw
        case rel => exact ⟨p, e, by omega, rfl, by rw [hst.out], rfl, N', by trivial⟩
        case measure => simp [intOf]; omega
      · have hci : (p : Int) + s < n + 1 := by omega
        have hcell := rr.cell (i := p + s) (by omega)
        simp only [ints] at hcell
        by_cases hc2 : 0 < t (p + s)
        · have N' := S2 (by omega) hc2
          have hci2 : ¬ t (p + s) ≤ 0 := by omega
          clear S1 S2 S3
          go_wp2_with fail
          go_roundw
          case rel => exact ⟨p, e, by omega, rfl, by rw [hst.out], rfl, N', by trivial⟩
          case measure => simp [intOf]; omega
        · obtain ⟨hz, N'⟩ := S3 (by omega) (by omega)
          rw [hz] at hcell
          clear S1 S2 S3
          go_wp2_with fail
          go_roundw
          case rel => exact ⟨p + s, e, by omega, by go_num, by rw [hst.out], rfl, N', by trivial⟩
          case measure => simp [intOf]; omega

set_option maxRecDepth 100000 in
set_option maxHeartbeats 1000000 in
theorem after_any (bt n e0 : Nat) (t : Nat → Int) (F : Nat → Bool) (q : Nat) (w : World) (hn : n ≤ 255) (he : e0 ≤ 8) (hF : Fen n F t) (hq : IsLow F n q) (hne : n < 2 ^ e0)
    (row : w.rowIs bt 3 (n + 1) (ints t)) :
    Calls Yba.prog 51 #[nsv bt n (stp e0), .int .i64 (-1)] w fun e w' => e = .returned (.int .i64 (if q = n then (-1 : Int) else q)) ∧ But [] w w' := by
  have hbt : bt < w.heap.size := row.lt
  have row' := fun o => row.alloc o
  have hbx : ∀ o, But [] w (w.alloc o) := fun o => (But.refl _ _).alloc _
  have k0 : ∀ w', But [] (w.alloc (.cells #[.slice (some ⟨bt, 0, none⟩) (n + 1) (n + 1), .int .i64 (stp e0)] 88)) w' → w'.cell? ⟨w.heap.size, 0, none⟩ = some (.slice (some ⟨bt, 0, none⟩) (n + 1) (n + 1)) ∧ w'.cell? ⟨w.heap.size, 1, none⟩ = some (.int .i64 (stp e0)) ∧ w'.rowIs bt 3 (n + 1) (ints t) := by
    intro w' h
    have e := h.block w.heap.size (by simp) (by simp)
    have e2 := h.block bt (by simp; omega) (by simp)
    refine ⟨?_, ?_, (row' _).of_block e2⟩
    · rw [World.cell?_of_block (w := w.alloc _) e, World.cell?_alloc_new]; rfl
    · rw [World.cell?_of_block (w := w.alloc _) e, World.cell?_alloc_new]; rfl
  have hb0 := hbx (.cells #[.slice (some ⟨bt, 0, none⟩) (n + 1) (n + 1), .int .i64 (stp e0)] 88)
  obtain ⟨c0, c1, r0⟩ := k0 _ (But.refl _ _)
  have N := fun w' (r : w'.rowIs bt 3 (n + 1) (ints t)) => nth_any bt n e0 t F q w' hn he hF hq hne r
  unfold nsv at N ⊢
  clear hF hq row row' hbx
  generalize (if q = n then (-1 : Int) else q) = rv at N ⊢
  go_enter Yba.func51, Yba.ntmps51
  go_wp2_with fail
  generalize w.alloc (.cells #[.slice (some ⟨bt, 0, none⟩) (n + 1) (n + 1), .int .i64 (stp e0)] 88) = W at c0 c1 r0 k0 hb0 ⊢
  have U := upTo_any (.slice (some ⟨bt, 0, none⟩) (n + 1) (n + 1)) (stp e0)
  have hdr : But [] W W.drew := ⟨rfl, rfl, rfl, Nat.le_refl _, fun _ _ _ => rfl⟩
  go_region_with (first
    | (go_at_call 75; refine (U _).mono ?_; rintro e w' ⟨rfl, hb⟩; obtain ⟨d0, d1, dr⟩ := k0 _ (hdr.trans hb); have hb1 := hb0.trans (hdr.trans hb); clear hb)
    | (go_at_call 74; refine (N _ (by assumption)).mono ?_; rintro e w' ⟨rfl, hb⟩))
  all_goals
    go_wp2_with fail
    go_ret
    exact ⟨rfl, (But.trans (by assumption) (by assumption))⟩
end Go.Proofs.Ybulkblde
