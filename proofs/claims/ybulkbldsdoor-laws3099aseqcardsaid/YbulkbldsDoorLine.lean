/-
  The line of the trace: begin, key, str, integer, end, event.
-/
import Derived.Test.YbulkbldsDoorApp
namespace Go.Proofs.YbulkbldsDoor
open Go.Shelf Go.RowKit

/-- The Trace's four cells. -/
def trc (bw : Nat) (lv : Value) (mem : Nat) (i : Nat) : Value :=
  if i = 0 then .pointer (some ⟨bw, 0, none⟩) else if i = 1 then lv else if i = 2 then .int .i64 mem else .nilIface

/-- The Trace at block bt, its line's bytes owned from B on, B behind bt. -/
structure Ln (B bt bw : Nat) (lv : Value) (l : List UInt8) (mem : Nat) (w : World) : Prop where
  lt : bt < B
  hB : B ≤ w.heap.size
  tr : w.rowIs bt 107 4 (trc bw lv mem)
  own : Owns B lv l w

/-- Nothing below B has turned but block bt. -/
structure But (B bt : Nat) (w w' : World) : Prop where
  os : w'.os = w.os
  tape : w'.tape = w.tape
  output : w'.output = w.output
  size : w.heap.size ≤ w'.heap.size
  block : ∀ k, k < B → k ≠ bt → w'.heap[k]? = w.heap[k]?

theorem But.of {B bt : Nat} {w w' : World} (h : Below B w w') : But B bt w w' := ⟨h.os, h.tape, h.output, h.size, fun k hk _ => h.block k hk⟩
theorem But.trans {B bt : Nat} {a b c : World} (h : But B bt a b) (k : But B bt b c) : But B bt a c :=
  ⟨k.os.trans h.os, k.tape.trans h.tape, k.output.trans h.output, Nat.le_trans h.size k.size, fun j hj hn => (k.block j hj hn).trans (h.block j hj hn)⟩
theorem But.set {B bt : Nat} {a b : World} (h : But B bt a b) (i : Nat) (v : Value) : But B bt a (b.setCell ⟨bt, i, none⟩ v) :=
  h.trans ⟨rfl, rfl, rfl, by simp [World.setCell], fun k _ hn => Below.heap_setCell _ _ _ _ hn⟩

theorem Ln.store {B bt bw mem : Nat} {lv v : Value} {l m : List UInt8} {w w' : World} (h : Ln B bt bw lv l mem w) (hb : Below B w w') (ho : Owns B v m w') : Ln B bt bw v m mem (w'.setCell ⟨bt, 1, none⟩ v) := by
  refine ⟨h.lt, by have := h.hB; have := hb.size; simp; omega, ?_, ownsRow_setCell_below ho h.lt v⟩
  have hr := World.rowIs.of_block h.tr (hb.block bt h.lt)
  refine (hr.set 1 v).congr ?_
  intro i _
  unfold trc
  by_cases e : i = 1 <;> simp [e]
theorem Ln.mem {B bt bw mem : Nat} {lv : Value} {l : List UInt8} {w : World} (h : Ln B bt bw lv l mem w) (mem' : Nat) : Ln B bt bw lv l mem' (w.setCell ⟨bt, 2, none⟩ (.int .i64 mem')) := by
  refine ⟨h.lt, by have := h.hB; simp; omega, ?_, ownsRow_setCell_below h.own h.lt _⟩
  refine (h.tr.set 2 _).congr ?_
  intro i _
  unfold trc
  by_cases e : i = 2 <;> simp [e]

theorem Ln.c1 {B bt bw mem : Nat} {lv : Value} {l : List UInt8} {w : World} (h : Ln B bt bw lv l mem w) : w.cell? ⟨bt, 1, none⟩ = some lv := h.tr.cell (by omega)
theorem Ln.c2 {B bt bw mem : Nat} {lv : Value} {l : List UInt8} {w : World} (h : Ln B bt bw lv l mem w) : w.cell? ⟨bt, 2, none⟩ = some (.int .i64 mem) := h.tr.cell (by omega)

/-- l.buf[:0]. -/
def slc23 (x : Value) (lo hi mx : Option Value) := Instr.slice 23 x lo hi mx
theorem hideSlc (x : Value) (lo hi mx : Option Value) : Instr.slice 23 x lo hi mx = slc23 x lo hi mx := rfl
theorem own_cut {B : Nat} {v : Value} {l : List UInt8} {w : World} (h : Owns B v l w) : ∃ v0, Owns B v0 [] w ∧ ∀ w', (slc23 v none (some (.int .i64 0)) none).run Ybad.prog w' = .ok v0 w' := by
  obtain ⟨_, ⟨h0, _⟩ | ⟨g, cap, cur, hv, hb, hh, h1, h2, h3, _⟩⟩ := h
  · subst h0
    refine ⟨_, Owns.nil B w, fun w' => ?_⟩
    unfold slc23 Instr.slice
    simp [go_sem, run_underlying Ybad.underlying23]
  · subst hv
    refine ⟨.slice (some ⟨g, 0, none⟩) 0 cap, ⟨rfl, Or.inr ⟨g, cap, cur, rfl, hb, hh, Nat.zero_le _, h2, h3, by simp [Lib.byteCells]⟩⟩, fun w' => ?_⟩
    unfold slc23 Instr.slice
    simp [go_sem, run_underlying Ybad.underlying23]

attribute [local go_sem ↓] hideSlc

set_option maxRecDepth 100000 in
theorem begin_any (B bt bw mem : Nat) (lv : Value) (l : List UInt8) (w : World) (h : Ln B bt bw lv l mem w) :
    Calls Ybad.prog 25 #[.pointer (some ⟨bt, 1, none⟩)] w fun e w' => e = .returned (.tuple #[]) ∧ ∃ lv', Ln B bt bw lv' [123] 0 w' ∧ But B bt w w' := by
  have c1 := h.c1
  have hB := h.hB
  have hlt := h.lt
  obtain ⟨v0, o0, hsl⟩ := own_cut h.own
  go_enter Ybad.func25, Ybad.ntmps25
  go_wp2_with (at_builtin; refine wp_byte w rfl _ _ rfl o0 rfl hB (by simp) 123 _ rfl rfl ?_)
  intro a1 n1 c1' w1 o1 b1
  have k1 := (b1.cell (p := ⟨bt, 1, none⟩) hlt).trans c1
  have k3 := (b1.frozen (p := ⟨bt, 1, none⟩) hlt).trans (h.tr.frozen 1)
  have L1 := h.store b1 o1
  have k2 := L1.c2
  have k4 := L1.tr.frozen 2
  go_wp2
  go_end0
  exact ⟨rfl, _, L1.mem 0, ((But.of b1).set 1 _).set 2 _⟩

theorem Ln.at {B bt bw mem : Nat} {lv : Value} {l : List UInt8} {w w' : World} (h : Ln B bt bw lv l mem w) (hb : Below B w w') : w'.cell? ⟨bt, 1, none⟩ = some lv ∧ w'.frozen? ⟨bt, 1, none⟩ = false :=
  ⟨(hb.cell (p := ⟨bt, 1, none⟩) h.lt).trans h.c1, (hb.frozen (p := ⟨bt, 1, none⟩) h.lt).trans (h.tr.frozen 1)⟩
theorem Ln.f {B bt bw mem : Nat} {lv : Value} {l : List UInt8} {w : World} (h : Ln B bt bw lv l mem w) (i : Nat) : w.frozen? ⟨bt, i, none⟩ = false := h.tr.frozen i

set_option maxRecDepth 100000 in
theorem key0_any (B bt bw : Nat) (lv : Value) (l k : List UInt8) (w : World) (h : Ln B bt bw lv l 0 w) (hl : l.length + k.length ≤ 10000) :
    Calls Ybad.prog 27 #[.pointer (some ⟨bt, 1, none⟩), .string ⟨k.toArray⟩] w fun e w' => e = .returned (.tuple #[]) ∧ ∃ lv', Ln B bt bw lv' (l ++ 34 :: (k ++ [34, 58, 32])) 1 w' ∧ But B bt w w' := by
  have hlt := h.lt
  have c1 := h.c1
  have c2 := h.c2
  have f2 := h.f 2
  have L0 := h.mem 1
  have g1 := L0.c1
  have HL0 : Hid (Ln B bt bw lv l 1 (w.setCell ⟨bt, 2, none⟩ (.int .i64 ((1 : Nat) : Int)))) := L0
  clear L0
  go_enter Ybad.func27, Ybad.ntmps27
  go_wp2_with (go_at_call 33; refine (appendString_any B _ l k _ HL0.out.own HL0.out.hB (by omega)).mono ?_)
  rintro e w1 ⟨a1, n1, d1, rfl, o1, b1⟩
  obtain ⟨k1, k2⟩ := HL0.out.at b1
  have L1 := HL0.out.store b1 o1
  have m1 := L1.c1
  have H1 : Hid (But B bt w (w1.setCell ⟨bt, 1, none⟩ (.slice a1 n1 d1))) := (((But.of (Below.refl B w)).set 2 _).trans (But.of b1)).set 1 _
  clear c1 c2 f2 g1 b1 HL0 h
  obtain ⟨W1, hW1⟩ : ∃ W, W = w1.setCell ⟨bt, 1, none⟩ (.slice a1 n1 d1) := ⟨_, rfl⟩
  rw [← hW1] at L1 H1 m1
  have HW1 : Hid (W1 = w1.setCell ⟨bt, 1, none⟩ (.slice a1 n1 d1)) := hW1
  have hW1' := hW1.symm
  clear hW1
  go_wp2_with (at_builtin; refine wp_str W1 rfl _ _ rfl [58, 32] L1.own rfl L1.hB (by simp; omega) rfl ?_)
  intro v2 n2 d2 w2 o2 b2
  obtain ⟨k3, k4⟩ := L1.at b2
  have L2 := L1.store b2 o2
  have H2 : Hid (But B bt w (w2.setCell ⟨bt, 1, none⟩ (.slice v2 n2 d2))) := (H1.out.trans (But.of b2)).set 1 _
  clear H1 k1 k2 hW1' m1
  go_wp2
  go_end0
  exact ⟨rfl, _, L2, H2.out⟩
set_option maxRecDepth 100000 in
theorem key1_any (B bt bw : Nat) (lv : Value) (l k : List UInt8) (w : World) (h : Ln B bt bw lv l 1 w) (hl : l.length + k.length ≤ 10000) :
    Calls Ybad.prog 27 #[.pointer (some ⟨bt, 1, none⟩), .string ⟨k.toArray⟩] w fun e w' => e = .returned (.tuple #[]) ∧ ∃ lv', Ln B bt bw lv' (l ++ 44 :: 32 :: 34 :: (k ++ [34, 58, 32])) 2 w' ∧ But B bt w w' := by
  have hlt := h.lt
  have c1 := h.c1
  have c2 := h.c2
  have f1 := h.f 1
  go_enter Ybad.func27, Ybad.ntmps27
  go_wp2_with (at_builtin; refine wp_str w rfl _ _ rfl [44, 32] h.own rfl h.hB (by simp; omega) rfl ?_)
  intro v0 n0 d0 w0 o0 b0
  obtain ⟨k5, k6⟩ := h.at b0
  have LA := h.store b0 o0
  have HA : Hid (But B bt w (w0.setCell ⟨bt, 1, none⟩ (.slice v0 n0 d0))) := (But.of b0).set 1 _
  have c2' := LA.c2
  have g0 := LA.c1
  have f2 := LA.f 2
  have L0 := LA.mem 2
  have g1 := L0.c1
  obtain ⟨W0, hW0⟩ : ∃ W, W = w0.setCell ⟨bt, 1, none⟩ (.slice v0 n0 d0) := ⟨_, rfl⟩
  rw [← hW0] at LA HA c2' f2 L0 g1 g0
  have hW0' := hW0.symm
  clear hW0
  have HL0 : Hid (Ln B bt bw (.slice v0 n0 d0) (l ++ [44, 32]) 2 (W0.setCell ⟨bt, 2, none⟩ (.int .i64 ((2 : Nat) : Int)))) := L0
  clear L0 c1 c2 f1 LA h o0 b0
  go_wp2_with (go_at_call 33; refine (appendString_any B _ (l ++ [44, 32]) k _ HL0.out.own HL0.out.hB (by simp; omega)).mono ?_)
  rintro e w1 ⟨a1, n1, d1, rfl, o1, b1⟩
  obtain ⟨k1, k2⟩ := HL0.out.at b1
  have L1 := HL0.out.store b1 o1
  have m1 := L1.c1
  have H1 : Hid (But B bt w (w1.setCell ⟨bt, 1, none⟩ (.slice a1 n1 d1))) := ((HA.out.set 2 _).trans (But.of b1)).set 1 _
  clear c2' f2 g1 g0 b1 HL0 HA k5 k6 hW0'
  obtain ⟨W1, hW1⟩ : ∃ W, W = w1.setCell ⟨bt, 1, none⟩ (.slice a1 n1 d1) := ⟨_, rfl⟩
  rw [← hW1] at L1 H1 m1
  have hW1' := hW1.symm
  clear hW1
  go_wp2_with (at_builtin; refine wp_str W1 rfl _ _ rfl [58, 32] L1.own rfl L1.hB (by simp; omega) rfl ?_)
  intro v2 n2 d2 w2 o2 b2
  obtain ⟨k3, k4⟩ := L1.at b2
  have L2 := L1.store b2 o2
  have H2 : Hid (But B bt w (w2.setCell ⟨bt, 1, none⟩ (.slice v2 n2 d2))) := (H1.out.trans (But.of b2)).set 1 _
  clear H1 k1 k2 hW1' m1
  go_wp2
  go_end0
  refine ⟨rfl, .slice v2 n2 d2, ?_, H2.out⟩
  simpa using L2

set_option maxRecDepth 100000 in
theorem str0_any (B bt bw : Nat) (lv : Value) (l k v : List UInt8) (w : World) (h : Ln B bt bw lv l 0 w) (hl : l.length + k.length + v.length ≤ 1000) :
    Calls Ybad.prog 26 #[.pointer (some ⟨bt, 1, none⟩), .string ⟨k.toArray⟩, .string ⟨v.toArray⟩] w fun e w' => e = .returned (.tuple #[]) ∧ ∃ lv', Ln B bt bw lv' (l ++ 34 :: (k ++ 34 :: 58 :: 32 :: 34 :: (v ++ [34]))) 1 w' ∧ But B bt w w' := by
  have hlt := h.lt
  go_enter Ybad.func26, Ybad.ntmps26
  go_wp2_with (go_at_call 27; refine (key0_any B bt bw lv l k _ h (by omega)).mono ?_)
  rintro e w1 ⟨rfl, v1, L1, H1⟩
  have c1 := L1.c1
  clear h
  have HH : Hid (But B bt w w1) := H1
  clear H1
  go_wp2_with (go_at_call 33; refine (appendString_any B _ _ v _ L1.own L1.hB (by simp; omega)).mono ?_)
  rintro e w2 ⟨a1, n1, d1, rfl, o1, b1⟩
  obtain ⟨k1, k2⟩ := L1.at b1
  have L2 := L1.store b1 o1
  have H2 : Hid (But B bt w (w2.setCell ⟨bt, 1, none⟩ (.slice a1 n1 d1))) := (HH.out.trans (But.of b1)).set 1 _
  go_wp2
  go_end0
  refine ⟨rfl, .slice a1 n1 d1, ?_, H2.out⟩
  simpa using L2

set_option maxRecDepth 100000 in
theorem integer1_any (B bt bw : Nat) (lv : Value) (l k : List UInt8) (v : Int) (h0 : -9223372036854775808 ≤ v) (h1 : v ≤ 9223372036854775807) (w : World) (h : Ln B bt bw lv l 1 w) (hl : l.length + k.length ≤ 1000)
    (htab : ∀ w', But B bt w w' → Lib.TabBelow Ybad.prog B w' nPow .u64 Lib.pow10Tab) :
    Calls Ybad.prog 16 #[.pointer (some ⟨bt, 1, none⟩), .string ⟨k.toArray⟩, .int .i64 v] w fun e w' => e = .returned (.tuple #[]) ∧ ∃ lv', Ln B bt bw lv' (l ++ 44 :: 32 :: 34 :: (k ++ 34 :: 58 :: 32 :: Lib.itoa v)) 2 w' ∧ But B bt w w' := by
  have hlt := h.lt
  have HTB := (show Hid _ from htab)
  clear htab
  go_enter Ybad.func16, Ybad.ntmps16
  go_wp2_with (go_at_call 27; refine (key1_any B bt bw lv l k _ h (by omega)).mono ?_)
  rintro e w1 ⟨rfl, v1, L1, H1⟩
  have c1 := L1.c1
  clear h
  have HH : Hid (But B bt w w1) := H1
  clear H1
  go_wp2_with (go_at_call 28; refine (appendInt_any B v h0 h1 _ _ _ L1.own L1.hB (by simp; omega) (HTB.out _ HH.out)).mono ?_)
  rintro e w2 ⟨a1, n1, d1, rfl, o1, b1⟩
  obtain ⟨k1, k2⟩ := L1.at b1
  have L2 := L1.store b1 o1
  have H2 : Hid (But B bt w (w2.setCell ⟨bt, 1, none⟩ (.slice a1 n1 d1))) := (HH.out.trans (But.of b1)).set 1 _
  go_wp2
  go_end0
  refine ⟨rfl, .slice a1 n1 d1, ?_, H2.out⟩
  simpa using L2

set_option maxRecDepth 100000 in
theorem end_any (B bt bw mem : Nat) (lv : Value) (l : List UInt8) (w : World) (h : Ln B bt bw lv l mem w) (hl : l.length ≤ 1000) :
    Calls Ybad.prog 30 #[.pointer (some ⟨bt, 1, none⟩)] w fun e w' => ∃ a n c, e = .returned (.slice a n c) ∧ Ln B bt bw (.slice a n c) (l ++ [125, 10]) mem w' ∧ But B bt w w' := by
  have hlt := h.lt
  have c1 := h.c1
  go_enter Ybad.func30, Ybad.ntmps30
  go_wp2_with (at_builtin; refine wp_str w rfl _ _ rfl [125, 10] h.own rfl h.hB (by simp; omega) rfl ?_)
  intro v0 n0 d0 w0 o0 b0
  obtain ⟨k5, k6⟩ := h.at b0
  have LA := h.store b0 o0
  have m1 := LA.c1
  have HA : Hid (But B bt w (w0.setCell ⟨bt, 1, none⟩ (.slice v0 n0 d0))) := (But.of b0).set 1 _
  go_wp2
  go_ret
  exact ⟨_, _, _, rfl, LA, HA.out⟩

set_option maxRecDepth 100000 in
theorem event_any (B bt bw mem : Nat) (lv : Value) (l v : List UInt8) (w : World) (h : Ln B bt bw lv l mem w) (hl : v.length ≤ 100) :
    Calls Ybad.prog 15 #[.pointer (some ⟨bt, 0, none⟩), .string ⟨v.toArray⟩] w fun e w' => e = .returned (.pointer (some ⟨bt, 1, none⟩)) ∧ ∃ lv', Ln B bt bw lv' (123 :: 34 :: 101 :: 118 :: 101 :: 110 :: 116 :: 34 :: 58 :: 32 :: 34 :: (v ++ [34])) 1 w' ∧ But B bt w w' := by
  go_enter Ybad.func15, Ybad.ntmps15
  go_wp2_with (go_at_call 25; refine (begin_any B bt bw mem lv l _ h).mono ?_)
  rintro e w1 ⟨rfl, v1, L1, H1⟩
  have HH : Hid (But B bt w w1) := H1
  clear H1 h
  go_wp2_with (go_at_call 26; refine (str0_any B bt bw v1 [123] [101, 118, 101, 110, 116] v _ L1 (by simp; omega)).mono ?_)
  rintro e w2 ⟨rfl, v2, L2, H2⟩
  have HH2 : Hid (But B bt w w2) := HH.out.trans H2
  clear H2
  go_wp2
  go_ret
  refine ⟨rfl, v2, ?_, HH2.out⟩
  simpa using L2
end Go.Proofs.YbulkbldsDoor
