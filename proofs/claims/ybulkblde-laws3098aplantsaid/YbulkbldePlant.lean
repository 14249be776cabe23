/-
  'plantOverwrittenRead': its contract.
-/
import Derived.Test.YbulkbldeAround
import Derived.Test.YbulkbldePlain
import Derived.Deep.RegionHeld3
import Derived.Deep.DeepCutAuto
namespace Go.Proofs.Ybulkblde
open Go.RowKit
attribute [local go_sem ↓] Go.wp_at_zero Go.wp_at_succ

/-- In the midst of the plant: of what was there only the generator and the steps have turned. -/
structure Pl (w : World) (bp bst tot : Nat) (s : Nat → St) (wx : World) : Prop where
  os : wx.os = w.os
  tape : wx.tape = w.tape
  output : wx.output = w.output
  size : w.heap.size ≤ wx.heap.size
  block : ∀ b, b < w.heap.size → b ≠ bp → b ≠ bst → wx.heap[b]? = w.heap[b]?
  gen : Gen bp wx
  st : wx.rowIs bst 32 (tot * 3) (stc s)

theorem Pl.rnd {w : World} {bp bst tot : Nat} {s : Nat → St} {wx wy : World} (h : Pl w bp bst tot s wx) (R : Rnd bp wx wy) (hne : bst ≠ bp) : Pl w bp bst tot s wy :=
  ⟨R.os.trans h.os, R.tape.trans h.tape, R.output.trans h.output, by rw [R.size]; exact h.size, fun b hb h1 h2 => (R.block b h1).trans (h.block b hb h1 h2), R.gen, h.st.of_block (R.block _ hne)⟩
theorem Pl.drewN {w : World} {bp bst tot : Nat} {s : Nat → St} {wx : World} (h : Pl w bp bst tot s wx) (q : Nat) : Pl w bp bst tot s (wx.drewN q) := ⟨h.os, h.tape, h.output, h.size, h.block, h.gen, h.st⟩
theorem Pl.drew {w : World} {bp bst tot : Nat} {s : Nat → St} {wx : World} (h : Pl w bp bst tot s wx) : Pl w bp bst tot s wx.drew := ⟨h.os, h.tape, h.output, h.size, h.block, h.gen, h.st⟩
theorem gen_lt {bp : Nat} {w : World} (h : Gen bp w) : bp < w.heap.size := by
  obtain ⟨a, b, _, _, hb⟩ := h
  exact (Array.getElem?_eq_some_iff.1 hb).1
theorem Pl.alloc {w : World} {bp bst tot : Nat} {s : Nat → St} {wx : World} (h : Pl w bp bst tot s wx) (o : Obj) : Pl w bp bst tot s (wx.alloc o) := by
  have hs := h.size
  refine ⟨h.os, h.tape, h.output, by simp; omega, fun b hb h1 h2 => ?_, ?_, h.st.alloc o⟩
  · rw [Below.heap_alloc _ _ _ (by omega)]; exact h.block b hb h1 h2
  · have hl := gen_lt h.gen
    obtain ⟨a, b, h1, h2, h3⟩ := h.gen
    exact ⟨a, b, h1, h2, by rw [Below.heap_alloc _ _ _ hl]; exact h3⟩
theorem Pl.put {w : World} {bp bst tot : Nat} {s : Nat → St} {wx : World} (h : Pl w bp bst tot s wx) (hne : bst ≠ bp) (id : Nat) (v : St) :
    Pl w bp bst tot (upd s id v) (((wx.setCell ⟨bst, id * 3, none⟩ (.int .u8 v.act)).setCell ⟨bst, id * 3 + 1, none⟩ (.int .i64 v.txn)).setCell ⟨bst, id * 3 + 2, none⟩ (.string (itm v.it))) := by
  have hb : ∀ b, b ≠ bst → (((wx.setCell ⟨bst, id * 3, none⟩ (.int .u8 v.act)).setCell ⟨bst, id * 3 + 1, none⟩ (.int .i64 v.txn)).setCell ⟨bst, id * 3 + 2, none⟩ (.string (itm v.it))).heap[b]? = wx.heap[b]? := by
    intro b hb
    rw [Below.heap_setCell _ _ _ _ hb, Below.heap_setCell _ _ _ _ hb, Below.heap_setCell _ _ _ _ hb]
  refine ⟨h.os, h.tape, h.output, by simpa [World.setCell] using h.size, fun b hb' h1 h2 => (hb b h2).trans (h.block b hb' h1 h2), ?_, stc_upd h.st id v⟩
  obtain ⟨x, y, h1, h2, h3⟩ := h.gen
  exact ⟨x, y, h1, h2, by rw [hb _ (Ne.symm hne)]; exact h3⟩
theorem Pl.gs {w : World} {bp bst tot : Nat} {s : Nat → St} {wx : World} (h : Pl w bp bst tot s wx) {bg bpm n k m : Nat} (hG : Gs w bg bp bst bpm n k m tot) (l0 : bg ≠ bp) (l7 : bst ≠ bg) : Gs wx bg bp bst bpm n k m tot :=
  hG.of_block (h.block bg (cell_lt hG.c0) l0 (Ne.symm l7))
theorem Pl.cells {w : World} {bp bst tot : Nat} {s : Nat → St} {wx : World} (h : Pl w bp bst tot s wx) {id : Nat} (hid : id < tot) :
    wx.cell? ⟨bst, id * 3, none⟩ = some (.int .u8 (s id).act) ∧ wx.cell? ⟨bst, id * 3 + 1, none⟩ = some (.int .i64 (s id).txn) ∧ wx.cell? ⟨bst, id * 3 + 2, none⟩ = some (.string (itm (s id).it)) ∧
    wx.frozen? ⟨bst, id * 3, none⟩ = false ∧ wx.frozen? ⟨bst, id * 3 + 1, none⟩ = false ∧ wx.frozen? ⟨bst, id * 3 + 2, none⟩ = false :=
  ⟨by rw [h.st.cell (by omega), stc0], by rw [h.st.cell (by omega), stc1], by rw [h.st.cell (by omega), stc2], h.st.frozen _, h.st.frozen _, h.st.frozen _⟩

/-- The variables of the plant. -/
structure Vr (wx : World) (b1 b2 b4 bg wt rt : Nat) : Prop where
  v1 : wx.cell? ⟨b1, 0, none⟩ = some (.pointer (some ⟨bg, 0, none⟩))
  v2 : wx.cell? ⟨b2, 0, none⟩ = some (.int .i64 wt)
  v4 : wx.cell? ⟨b4, 0, none⟩ = some (.int .i64 rt)

theorem Cap.put {wx : World} {b1 b2 b3 b4 bg wt rt first bst : Nat} (h : Cap wx b1 b2 b3 b4 bg wt rt first) (o : Nat) (v : Value) (n1 : bst ≠ b1) (n2 : bst ≠ b2) (n3 : bst ≠ b3) (n4 : bst ≠ b4) : Cap (wx.setCell ⟨bst, o, none⟩ v) b1 b2 b3 b4 bg wt rt first :=
  ⟨keepS _ _ h.v1 n1, keepS _ _ h.v2 n2, keepS _ _ h.v3 n3, keepS _ _ h.v4 n4⟩
theorem Cap.drewN {wx : World} {b1 b2 b3 b4 bg wt rt first : Nat} (h : Cap wx b1 b2 b3 b4 bg wt rt first) (q : Nat) : Cap (wx.drewN q) b1 b2 b3 b4 bg wt rt first := ⟨h.v1, h.v2, h.v3, h.v4⟩

theorem plant_put {w : World} {bp bst tot : Nat} {s s' : Nat → St} {wx : World} {b1 b2 b3 b4 bg wt rt first id : Nat} {v : St} (P : Pl w bp bst tot s wx) (C : Cap wx b1 b2 b3 b4 bg wt rt first) (l6 : bst ≠ bp) (hs : s' = upd s id v)
    (a z : Int) (ha : a = (v.act : Int)) (hz : z = (v.txn : Int)) (n1 : bst ≠ b1) (n2 : bst ≠ b2) (n3 : bst ≠ b3) (n4 : bst ≠ b4) :
    Pl w bp bst tot s' (((wx.setCell ⟨bst, id * 3, none⟩ (.int .u8 a)).setCell ⟨bst, id * 3 + 1, none⟩ (.int .i64 z)).setCell ⟨bst, id * 3 + 2, none⟩ (.string (itm v.it))) ∧
    Cap (((wx.setCell ⟨bst, id * 3, none⟩ (.int .u8 a)).setCell ⟨bst, id * 3 + 1, none⟩ (.int .i64 z)).setCell ⟨bst, id * 3 + 2, none⟩ (.string (itm v.it))) b1 b2 b3 b4 bg wt rt first := by
  subst hs
  subst ha
  subst hz
  exact ⟨P.put l6 id v, ((C.put _ _ n1 n2 n3 n4).put _ _ n1 n2 n3 n4).put _ _ n1 n2 n3 n4⟩

theorem Pl.act {w : World} {bp bst tot : Nat} {s : Nat → St} {wx : World} (h : Pl w bp bst tot s wx) (hne : bst ≠ bp) (id : Nat) (a : Nat) :
    Pl w bp bst tot (upd s id ⟨a, (s id).txn, (s id).it⟩) (wx.setCell ⟨bst, id * 3, none⟩ (.int .u8 a)) := by
  refine ⟨h.os, h.tape, h.output, by simpa [World.setCell] using h.size, fun b hb' h1 h2 => (Below.heap_setCell _ _ _ _ h2).trans (h.block b hb' h1 h2), ?_, (h.st.set _ _).congr ?_⟩
  · obtain ⟨x, y, h1, h2, h3⟩ := h.gen
    exact ⟨x, y, h1, h2, by rw [Below.heap_setCell _ _ _ _ (Ne.symm hne)]; exact h3⟩
  · intro i _
    by_cases e : i = id * 3
    · subst e; rw [if_pos rfl, stc0]; simp [upd]
    · rw [if_neg e]
      unfold stc upd
      by_cases e3 : i / 3 = id
      · rw [if_pos e3, e3]
        rw [if_neg (show ¬ i % 3 = 0 by omega), if_neg (show ¬ i % 3 = 0 by omega)]
      · rw [if_neg e3]

/-- What the plant leaves. -/
structure Planted (w : World) (bp bst tot : Nat) (s : Nat → St) (bi : Nat) (g : Nat → Nat) (w' : World) : Prop where
  os : w'.os = w.os
  tape : w'.tape = w.tape
  output : w'.output = w.output
  size : w.heap.size ≤ w'.heap.size
  block : ∀ b, b < w.heap.size → b ≠ bp → b ≠ bst → w'.heap[b]? = w.heap[b]?
  st : w'.rowIs bst 32 (tot * 3) (stc s)
  ids : ∃ c, w'.rowIs bi 3 tot c ∧ Con c tot g

theorem planted_of {w wx w' : World} {bp bst tot : Nat} {s : Nat → St} {g : Nat → Nat} (P : Pl w bp bst tot s wx) (O : ORel wx bp wx.heap.size tot tot g w') (l6 : bst ≠ bp) : Planted w bp bst tot s wx.heap.size g w' :=
  ⟨O.os.trans P.os, O.tape.trans P.tape, O.output.trans P.output, Nat.le_trans P.size (Nat.le_of_lt O.size), fun b hb h1 h2 => (O.block b (Nat.lt_of_lt_of_le hb P.size) h1).trans (P.block b hb h1 h2),
    P.st.of_block (O.block _ P.st.lt l6), O.row⟩

set_option maxRecDepth 100000 in
set_option maxHeartbeats 20000000 in
theorem plant_any (bg bp bst bpm n k m tot : Nat) (p : Nat → Nat) (s : Nat → St) (hn : 2 ≤ n) (hn' : n ≤ 16) (hk : 2 ≤ k) (hk' : k ≤ 16) (hm : 1 ≤ m) (hm' : m ≤ 26) (htot : tot = n * k) (w : World)
    (hG : Gs w bg bp bst bpm n k m tot) (hgen : Gen bp w) (hperm : w.rowIs bpm 3 n (fun i => .int .i64 (p i))) (hp : ∀ i, i < n → p i < n) (hst : w.rowIs bst 32 (tot * 3) (stc s)) (hit : ∀ id, id < tot → (s id).it < 26)
    (l0 : bg ≠ bp) (l5 : bpm ≠ bp) (l6 : bst ≠ bp) (l7 : bst ≠ bg) (l8 : bst ≠ bpm) :
    Calls Yba.prog 9 #[.pointer (some ⟨bg, 0, none⟩)] w fun e w' => ∃ first second read x at_ bi : Nat, first < second ∧ second < k ∧ read < k ∧ x < m ∧ at_ ≤ n - 2 ∧ w.heap.size ≤ bi ∧ e = .returned (.slice (some ⟨bi, 0, none⟩) tot tot) ∧
      Planted w bp bst tot (upd (rdz (upd (upd s (p 0 * k + first) ⟨2, p 0 + 1, x⟩) (p 0 * k + second) ⟨2, p 0 + 1, x⟩) (p 1 * k) read x) (p 1 * k + read) ⟨1, p 1 + 1, x⟩) bi (idf p k at_ (p 0) (p 1) first) w' := by
  obtain ⟨g0, g1, g2, g3, g4, g5⟩ := id hG
  have lg := cell_lt g0
  have q0 := hperm.cell (i := 0) (by omega)
  have q1 := hperm.cell (i := 1) (by omega)
  have lpm := hperm.lt
  simp only at lg
  have n2 : (1 : Int) < (n : Int) := by omega
  have n1 : (0 : Int) < (n : Int) := by omega
  have HT : Hid (tot = n * k) := htot
  have n0' : 0 < n := by omega
  have n1' : 1 < n := by omega
  have e1 := World.new_ne w ⟨bg, 5, none⟩ g5
  have e2 := World.new_ne w ⟨bpm, 0, none⟩ q0
  have e3 := World.new_ne w ⟨bpm, 1, none⟩ q1
  clear htot
  go_enter Yba.func9, Yba.ntmps9
  go_wp2_with fail
  have lst := hst.lt
  have lbp := gen_lt hgen
  have P0 : Pl w bp bst tot s w := ⟨rfl, rfl, rfl, Nat.le_refl _, fun _ _ _ _ => rfl, hgen, hst⟩
  go_cut [3, 4] (fun s3 s4 wx => ∃ b2 b4 : Nat, s3 = .pointer (some ⟨b2, 0, none⟩) ∧ s4 = .pointer (some ⟨b4, 0, none⟩) ∧ w.heap.size < b2 ∧ w.heap.size < b4 ∧ Vr wx w.heap.size b2 b4 bg (p 0) (p 1) ∧ Pl w bp bst tot s wx)
  case first =>
    go_region_held3 (fun w' => w'.cell? ⟨w.heap.size, 0, none⟩ = some (.pointer (some ⟨bg, 0, none⟩)) ∧ w'.cell? ⟨bg, 5, none⟩ = some (.slice (some ⟨bpm, 0, none⟩) n n) ∧ w'.cell? ⟨bpm, 0, none⟩ = some (.int .i64 (p 0)) ∧ w'.cell? ⟨bpm, 1, none⟩ = some (.int .i64 (p 1))) (refine ⟨?_, ?_, ?_, ?_⟩ <;> (repeat' (first | assumption | exact keepN _ _ _ | apply keepD | apply keepA | (refine keepS _ _ ?_ (by simp; omega))))) (fail)
    all_goals
      go_wp2_with fail
      go_meet
      case rel =>
        refine ⟨_, _, rfl, rfl, by omega, by omega, ⟨?_, ?_, ?_⟩, Pl.drew (Pl.alloc (Pl.alloc (Pl.alloc P0 _) _) _)⟩
        all_goals (first | exact keepD (keepA _ (keepA _ (keepM _ _ rfl))) | exact keepD (keepA _ (keepM _ _ (by simp))) | exact keepD (keepM _ _ (by simp)))
  case rest =>
    obtain ⟨b2, b4, rfl, rfl, hb2, hb4, V, P1⟩ := hcut
    clear P0 hst hgen q0 q1 e1 e2 e3
    have lb1 : w.heap.size ≠ bp := by omega
    have lb2 : b2 ≠ bp := by omega
    have lb4 : b4 ≠ bp := by omega
    have G1 := P1.gs hG l0 l7
    obtain ⟨v1, v2, v4⟩ := id V
    go_wp2_with fail
    refine (item_any bg bp m hm hm' _ G1.c0 G1.c3 l0 P1.gen).mono ?_
    rintro e w2 ⟨⟨x, hx, rfl⟩, R2⟩
    have P2 := P1.rnd R2 l6
    have V2 : Vr w2 w.heap.size b2 b4 bg (p 0) (p 1) := ⟨(R2.cell lb1 0).trans v1, (R2.cell lb2 0).trans v2, (R2.cell lb4 0).trans v4⟩
    have G2 := P2.gs hG l0 l7
    clear R2 P1 V v1 v2 v4 G1
    obtain ⟨v1, v2, v4⟩ := id V2
    go_wp2_with fail
    refine (twoSteps_any bg bp k hk hk' _ G2.c0 G2.c2 l0 P2.gen).mono ?_
    rintro e w3 ⟨⟨first, second, hfs, hsk, rfl⟩, R3⟩
    have P3 := P2.rnd R3 l6
    have V3 : Vr w3 w.heap.size b2 b4 bg (p 0) (p 1) := ⟨(R3.cell lb1 0).trans v1, (R3.cell lb2 0).trans v2, (R3.cell lb4 0).trans v4⟩
    clear R3 P2 V2 v1 v2 v4 G2
    go_wp2_with fail
    have P4 := P3.alloc (.cells #[.int .i64 (first : Int)] 3)
    have hp0 := hp 0 (by omega)
    have hp1 := hp 1 (by omega)
    have lb3 : w.heap.size ≤ w3.heap.size := P3.size
    obtain ⟨W4, hW4⟩ : ∃ W, W = w3.alloc (.cells #[.int .i64 (first : Int)] 3) := ⟨_, rfl⟩
    have C4 : Cap W4 w.heap.size b2 w3.heap.size b4 bg (p 0) (p 1) first := by subst hW4; exact ⟨keepA _ V3.v1, keepA _ V3.v2, keepN _ _ _, keepA _ V3.v4⟩
    rw [← hW4] at P4 ⊢
    clear hW4 P3 V3
    have G4 := P4.gs hG l0 l7
    have htb : tot ≤ 256 := by rw [HT.out]; exact Nat.mul_le_mul hn' hk'
    obtain ⟨b3, hb3⟩ : ∃ b3, b3 = w3.heap.size := ⟨_, rfl⟩
    rw [← hb3] at C4 lb3 ⊢
    clear hb3 G4
    have hw1 : IntKind.i64.wrap ((p 0 : Int) + 1) = (p 0 : Int) + 1 := by rw [IntKind.wrap_i64]; omega
    have hr1 : IntKind.i64.wrap ((p 1 : Int) + 1) = (p 1 : Int) + 1 := by rw [IntKind.wrap_i64]; omega
    obtain ⟨id1, hid1, lid1⟩ : ∃ id1, id1 = p 0 * k + first ∧ id1 < tot := ⟨_, rfl, by rw [HT.out]; exact id_lt hp0 (by omega)⟩
    obtain ⟨id2, hid2, lid2⟩ : ∃ id2, id2 = p 0 * k + second ∧ id2 < tot := ⟨_, rfl, by rw [HT.out]; exact id_lt hp0 (by omega)⟩
    have HI1 : Hid (id1 = p 0 * k + first) := hid1
    have HI2 : Hid (id2 = p 0 * k + second) := hid2
    clear hid1 hid2
    obtain ⟨sA, hsA⟩ : ∃ sA, sA = upd s id1 ⟨2, p 0 + 1, x⟩ := ⟨_, rfl⟩
    obtain ⟨sB, hsB⟩ : ∃ sB, sB = upd sA id2 ⟨2, p 0 + 1, x⟩ := ⟨_, rfl⟩
    have HSA : Hid (sA = upd s id1 ⟨2, p 0 + 1, x⟩) := hsA
    have HSB : Hid (sB = upd sA id2 ⟨2, p 0 + 1, x⟩) := hsB
    have hitB : ∀ id, id < tot → (sB id).it < 26 := by
      intro id h
      rw [hsB, hsA]
      unfold upd
      split
      · show x < 26; omega
      · split
        · show x < 26; omega
        · exact hit id h
    clear hsA hsB
    go_cut [] (fun wx => Pl w bp bst tot sA wx ∧ Cap wx w.heap.size b2 b3 b4 bg (p 0) (p 1) first)
    case first => 
      have G4 := P4.gs hG l0 l7
      obtain ⟨c1, c2, c3, c4, c5, c6⟩ := P4.cells lid1
      obtain ⟨v1, v2, v3, v4⟩ := id C4
      go_region_held3 (fun w' => w'.cell? ⟨w.heap.size, 0, none⟩ = some (.pointer (some ⟨bg, 0, none⟩)) ∧ w'.cell? ⟨b2, 0, none⟩ = some (.int .i64 (p 0)) ∧ w'.cell? ⟨b3, 0, none⟩ = some (.int .i64 first))
        (refine ⟨?_, ?_, ?_⟩ <;> (repeat (refine keepS _ _ ?_ (by simp; omega))) <;> (repeat (refine keepDN _ ?_)) <;> (first | exact v1 | exact v2 | exact v3))
        (first | (go_at_call 17; refine (at_any bg bp bst bpm n k m tot (p 0) first id1 ?_ ?_ hk' HI1.out lid1 htb _ ?_).mono ?_; (· omega); (· omega); (· exact ⟨G4.c0, G4.c1, G4.c2, G4.c3, G4.c4, G4.c5⟩); (rintro e w' ⟨rfl, q5, rfl⟩)))
      go_wp2_with fail
      go_meet
      case rel =>
        have n1 : bst ≠ w.heap.size := by omega
        have n2 : bst ≠ b2 := by omega
        have n3 : bst ≠ b3 := by omega
        have n4 : bst ≠ b4 := by omega
        exact plant_put (P4.drewN (1 + q5)) ⟨C4.v1, C4.v2, C4.v3, C4.v4⟩ l6 HSA.out 2 ((p 0 : Int) + 1) rfl (by simp) n1 n2 n3 n4
    case rest =>
      obtain ⟨P5, C5⟩ := hcut
      clear P4 C4
      go_wp2_with fail
      go_cut [] (fun wx => Pl w bp bst tot sB wx ∧ Cap wx w.heap.size b2 b3 b4 bg (p 0) (p 1) first)
      case first => 
        have G4 := P5.gs hG l0 l7
        obtain ⟨c1, c2, c3, c4, c5, c6⟩ := P5.cells lid2
        obtain ⟨v1, v2, v3, v4⟩ := id C5
        go_region_held3 (fun w' => w'.cell? ⟨w.heap.size, 0, none⟩ = some (.pointer (some ⟨bg, 0, none⟩)) ∧ w'.cell? ⟨b2, 0, none⟩ = some (.int .i64 (p 0)))
          (refine ⟨?_, ?_⟩ <;> (repeat (refine keepS _ _ ?_ (by simp; omega))) <;> (repeat (refine keepDN _ ?_)) <;> (first | exact v1 | exact v2))
          (first | (go_at_call 17; refine (at_any bg bp bst bpm n k m tot (p 0) second id2 ?_ ?_ hk' HI2.out lid2 htb _ ?_).mono ?_; (· omega); (· omega); (· exact ⟨G4.c0, G4.c1, G4.c2, G4.c3, G4.c4, G4.c5⟩); (rintro e w' ⟨rfl, q5, rfl⟩)))
        go_wp2_with fail
        go_meet
        case rel =>
          have n1 : bst ≠ w.heap.size := by omega
          have n2 : bst ≠ b2 := by omega
          have n3 : bst ≠ b3 := by omega
          have n4 : bst ≠ b4 := by omega
          exact plant_put (P5.drewN (1 + q5)) ⟨C5.v1, C5.v2, C5.v3, C5.v4⟩ l6 HSB.out 2 ((p 0 : Int) + 1) rfl (by simp) n1 n2 n3 n4
      case rest =>
        obtain ⟨P6, C6⟩ := hcut
        clear P5 C5
        go_wp2_with fail
        have G6 := P6.gs hG l0 l7
        obtain ⟨v1, v2, v3, v4⟩ := id C6
        go_region_held3 (fun w' => w'.cell? ⟨w.heap.size, 0, none⟩ = some (.pointer (some ⟨bg, 0, none⟩)) ∧ w'.cell? ⟨bg, 2, none⟩ = some (.int .i64 k))
          (first | exact ⟨v1, G6.c2⟩ | exact ⟨(R7.cell lb1 0).trans v1, (R7.cell l0 2).trans G6.c2⟩)
          (first | (go_at_call 14; refine (intN_z bg bp _ ?_ ?_ _ ?_ l0 ?_).mono ?_; (· omega); (· omega); (· exact G6.c0); (· exact P6.gen); (rintro e w7 ⟨⟨read, hrd, rfl⟩, R7⟩)))
        have P7 : Pl w bp bst tot sB w7 := Pl.rnd P6 ⟨R7.os, R7.tape, R7.output, R7.size, R7.block, R7.gen⟩ l6
        have lb3' : b3 ≠ bp := by omega
        have C7 : Cap w7 w.heap.size b2 b3 b4 bg (p 0) (p 1) first := ⟨(R7.cell lb1 0).trans C6.v1, (R7.cell lb2 0).trans C6.v2, (R7.cell lb3' 0).trans C6.v3, (R7.cell lb4 0).trans C6.v4⟩
        clear P6 C6 R7 G6 v1 v2 v3 v4
        obtain ⟨rk, hrk⟩ : ∃ rk, rk = p 1 * k := ⟨_, rfl⟩
        have HRK : Hid (rk = p 1 * k) := hrk
        have hrdk : read < k := by omega
        clear hrk hrd
        have P7' : Pl w bp bst tot (rdz sB rk 0 x) w7 := by rw [rdz_zero]; exact P7
        clear P7
        go_wp2_with fail
        go_loopw [55] (fun i wr => ∃ d : Nat, d ≤ read ∧ i = .int .i64 d ∧ Pl w bp bst tot (rdz sB rk d x) wr ∧ Cap wr w.heap.size b2 b3 b4 bg (p 0) (p 1) first) (fun i _ => read - (intOf i).toNat)
        case atStart => exact ⟨0, Nat.zero_le _, rfl, P7', C7⟩
        case round =>
          obtain ⟨d, hd, rfl, P8, C8⟩ := hrel
          clear P7' C7
          by_cases hlt : d < read
          · have G8 := P8.gs hG l0 l7
            obtain ⟨v1, v2, v3, v4⟩ := id C8
            have lid : rk + d < tot := by rw [HRK.out, HT.out]; exact id_lt hp1 (by omega)
            obtain ⟨c1, c2, c3, c4, c5, c6⟩ := P8.cells lid
            rw [(rdz_it sB rk d x (rk + d)).1] at c3
            have hgs : ∀ q, Gs (wr.drewN q) bg bp bst bpm n k m tot := fun q => ⟨G8.c0, G8.c1, G8.c2, G8.c3, G8.c4, G8.c5⟩
            by_cases hx' : (sB (rk + d)).it = x
            · have hxt : ((itm (sB (rk + d)).it).toList == (itm x).toList) = true := by rw [hx']; simp
              have P9 : ∀ q, Pl w bp bst tot (rdz sB rk (d + 1) x) ((wr.drewN q).setCell ⟨bst, (rk + d) * 3, none⟩ (.int .u8 1)) := by
                intro q
                rw [rdz_hit _ _ _ _ hx']
                have := (P8.drewN q).act l6 (rk + d) 1
                rw [(rdz_it sB rk d x (rk + d)).1, (rdz_it sB rk d x (rk + d)).2] at this
                exact this
              have C9 : ∀ q, Cap ((wr.drewN q).setCell ⟨bst, (rk + d) * 3, none⟩ (.int .u8 1)) w.heap.size b2 b3 b4 bg (p 0) (p 1) first := fun q => (C8.drewN q).put _ _ (by omega) (by omega) (by omega) (by omega)
              clear hx' P8 C8
              go_wp2_with fail
              refine (at_any bg bp bst bpm n k m tot (p 1) d (rk + d) (by omega) (by omega) hk' (by rw [HRK.out]) lid htb _ G8).mono ?_
              rintro e w' ⟨rfl, q, rfl⟩
              go_wp2_with fail
              go_roundw
              case rel => exact ⟨d + 1, by omega, by go_num, P9 q, C9 q⟩
              case measure => simp [intOf]; omega
            · have hxt : ((itm (sB (rk + d)).it).toList == (itm x).toList) = false := by rw [itm_eq _ _ (hitB _ lid) (by omega)]; simpa using hx'
              have P9 : Pl w bp bst tot (rdz sB rk (d + 1) x) wr := by rw [rdz_miss _ _ _ _ hx']; exact P8
              clear hx' P8
              go_wp2_with fail
              refine (at_any bg bp bst bpm n k m tot (p 1) d (rk + d) (by omega) (by omega) hk' (by rw [HRK.out]) lid htb _ G8).mono ?_
              rintro e w' ⟨rfl, q, rfl⟩
              go_wp2_with fail
              go_roundw
              case rel => exact ⟨d + 1, by omega, by go_num, P9.drewN q, C8.drewN q⟩
              case measure => simp [intOf]; omega
          obtain rfl : d = read := by omega
          obtain ⟨id3, hid3, lid3⟩ : ∃ id3, id3 = p 1 * k + d ∧ id3 < tot := ⟨_, rfl, by rw [HT.out]; exact id_lt hp1 (by omega)⟩
          have HI3 : Hid (id3 = p 1 * k + d) := hid3
          obtain ⟨sD, hsD⟩ : ∃ sD, sD = upd (rdz sB rk d x) id3 ⟨1, p 1 + 1, x⟩ := ⟨_, rfl⟩
          have HSD : Hid (sD = upd (rdz sB rk d x) id3 ⟨1, p 1 + 1, x⟩) := hsD
          clear hid3 hsD hlt
          go_wp2_with fail
          go_cut [] (fun wx => Pl w bp bst tot sD wx ∧ Cap wx w.heap.size b2 b3 b4 bg (p 0) (p 1) first)
          case first => 
            have G4 := P8.gs hG l0 l7
            obtain ⟨c1, c2, c3, c4, c5, c6⟩ := P8.cells lid3
            obtain ⟨v1, v2, v3, v4⟩ := id C8
            go_region_held3 (fun w' => w'.cell? ⟨w.heap.size, 0, none⟩ = some (.pointer (some ⟨bg, 0, none⟩)) ∧ w'.cell? ⟨b4, 0, none⟩ = some (.int .i64 (p 1)))
              (refine ⟨?_, ?_⟩ <;> (repeat (refine keepS _ _ ?_ (by simp; omega))) <;> (repeat (refine keepDN _ ?_)) <;> (first | exact v1 | exact v4))
              (first | (go_at_call 17; refine (at_any bg bp bst bpm n k m tot (p 1) d id3 ?_ ?_ hk' HI3.out lid3 htb _ ?_).mono ?_; (· omega); (· omega); (· exact ⟨G4.c0, G4.c1, G4.c2, G4.c3, G4.c4, G4.c5⟩); (rintro e w' ⟨rfl, q5, rfl⟩)))
            go_wp2_with fail
            go_meet
            case rel =>
              have n1 : bst ≠ w.heap.size := by omega
              have n2 : bst ≠ b2 := by omega
              have n3 : bst ≠ b3 := by omega
              have n4 : bst ≠ b4 := by omega
              exact plant_put (P8.drewN (1 + q5)) ⟨C8.v1, C8.v2, C8.v3, C8.v4⟩ l6 HSD.out 1 ((p 1 : Int) + 1) rfl (by simp) n1 n2 n3 n4
          case rest =>
            obtain ⟨P10, C10⟩ := hcut
            clear P8 C8
            have hmf : ∀ (fn : Fn) (fst cap : Array Value) (w : World), (Instr.makeFunc fn fst cap).run Yba.prog w = .ok (.func fn fst cap) w := fun _ _ _ _ => rfl
            have v1 := C10.v1
            have G10 := P10.gs hG l0 l7
            have HPm : wc.rowIs bpm 3 n (fun i => .int .i64 (p i)) := hperm.of_block (P10.block bpm lpm l5 (Ne.symm l8))
            go_wp2_with fail
            refine (around_any bg bp bst bpm n k m tot p (p 0) (p 1) first w.heap.size b2 b3 b4 hn hn' hk hk' HT.out _ G10 P10.gen HPm hp C10 (by omega) (by omega) (by omega) l0 l5 lb1 lb2 lb3' lb4).mono ?_
            rintro e w' ⟨at_, hat, rfl, O⟩
            have F := planted_of P10 O l6
            rw [HSD.out, HSB.out, HSA.out, HI1.out, HI2.out, HI3.out, HRK.out] at F
            have Hsz := P10.size
            clear O P10 C10 G10 HPm v1
            go_wp2_with fail
            go_ret
            exact ⟨first, second, d, x, at_, _, hfs, hsk, hrdk, hx, hat, Hsz, rfl, F⟩
end Go.Proofs.Ybulkblde
