/-
  The trace's line, with the strong frame.
-/
import Derived.Test.YbulkbldsDoorAppF
namespace Go.Proofs.YbulkbldsDoor
open Go.Shelf Go.RowKit

/-- From w to w' no block that was there has turned but bt and v's own; v' lies where v lay, or anew. -/
structure ButF (bt : Nat) (v : Value) (w : World) (v' : Value) (w' : World) : Prop where
  os : w'.os = w.os
  tape : w'.tape = w.tape
  output : w'.output = w.output
  size : w.heap.size ≤ w'.heap.size
  block : ∀ k, k < w.heap.size → k ≠ bt → some k ≠ v.ownBlock → w'.heap[k]? = w.heap[k]?
  own : v'.ownBlock = v.ownBlock ∨ ∃ g, v'.ownBlock = some g ∧ w.heap.size ≤ g

theorem ButF.of {bt : Nat} {v v' : Value} {w w' : World} (h : Fr v w v' w') : ButF bt v w v' w' := ⟨h.os, h.tape, h.output, h.size, fun k hk _ hn => h.block k hk hn, h.own⟩
theorem ButF.of' {bt : Nat} {u v v' : Value} {w w' : World} (e : u.ownBlock = v.ownBlock) (h : Fr u w v' w') : ButF bt v w v' w' := ⟨h.os, h.tape, h.output, h.size, fun k hk _ hn => h.block k hk (by rw [e]; exact hn), by rw [← e]; exact h.own⟩
theorem ButF.trans {bt : Nat} {v v1 v2 : Value} {w w1 w2 : World} (h : ButF bt v w v1 w1) (k : ButF bt v1 w1 v2 w2) : ButF bt v w v2 w2 := by
  refine ⟨k.os.trans h.os, k.tape.trans h.tape, k.output.trans h.output, Nat.le_trans h.size k.size, ?_, ?_⟩
  · intro j hj hb hn
    have s := h.size
    rw [k.block j (by omega) hb ?_, h.block j hj hb hn]
    rcases h.own with e | ⟨g, e, hg⟩
    · rw [e]; exact hn
    · rw [e]; intro h'; injection h'; omega
  · have s := h.size
    rcases k.own with e | ⟨g, e, hg⟩
    · rw [e]; exact h.own
    · exact Or.inr ⟨g, e, by omega⟩
theorem ButF.set {bt : Nat} {v v' : Value} {a b : World} (h : ButF bt v a v' b) (i : Nat) (x : Value) : ButF bt v a v' (b.setCell ⟨bt, i, none⟩ x) :=
  ⟨h.os, h.tape, h.output, by simp [World.setCell]; exact h.size, fun k hk hb hn => (Below.heap_setCell _ _ _ _ hb).trans (h.block k hk hb hn), h.own⟩
theorem ButF.but {B bt : Nat} {v v' : Value} {l : List UInt8} {w w' : World} (h : ButF bt v w v' w') (ho : Owns B v l w) (hB : B ≤ w.heap.size) : But B bt w w' :=
  ⟨h.os, h.tape, h.output, h.size, fun k hk hb => h.block k (by omega) hb (fun e => by have := (World.ownsRow.lt ho k e.symm).1; omega)⟩

theorem Ln.atF {B bt bw mem : Nat} {lv v : Value} {l : List UInt8} {w w' : World} (h : Ln B bt bw lv l mem w) (f : Fr lv w v w') : w'.cell? ⟨bt, 1, none⟩ = some lv ∧ w'.frozen? ⟨bt, 1, none⟩ = false := h.at (f.below h.own h.hB)
theorem Ln.storeF {B bt bw mem : Nat} {lv v u : Value} {l m : List UInt8} {w w' : World} (h : Ln B bt bw lv l mem w) (f : Fr lv w u w') (ho : Owns B v m w') : Ln B bt bw v m mem (w'.setCell ⟨bt, 1, none⟩ v) := h.store (f.below h.own h.hB) ho

theorem own_cutF {B : Nat} {v : Value} {l : List UInt8} {w : World} (h : Owns B v l w) : ∃ v0, Owns B v0 [] w ∧ (∀ w', (slc23 v none (some (.int .i64 0)) none).run Ybad.prog w' = .ok v0 w') ∧ v0.ownBlock = v.ownBlock := by
  obtain ⟨_, ⟨h0, _⟩ | ⟨g, cap, cur, hv, hb, hh, h1, h2, h3, _⟩⟩ := h
  · subst h0
    refine ⟨_, Owns.nil B w, fun w' => ?_, rfl⟩
    unfold slc23 Instr.slice
    simp [go_sem, run_underlying Ybad.underlying23]
  · subst hv
    refine ⟨.slice (some ⟨g, 0, none⟩) 0 cap, ⟨rfl, Or.inr ⟨g, cap, cur, rfl, hb, hh, Nat.zero_le _, h2, h3, by simp [Lib.byteCells]⟩⟩, fun w' => ?_, rfl⟩
    unfold slc23 Instr.slice
    simp [go_sem, run_underlying Ybad.underlying23]

attribute [local go_sem ↓] hideSlc

set_option maxRecDepth 100000 in
theorem begin_F (B bt bw mem : Nat) (lv : Value) (l : List UInt8) (w : World) (h : Ln B bt bw lv l mem w) :
    Calls Ybad.prog 25 #[.pointer (some ⟨bt, 1, none⟩)] w fun e w' => e = .returned (.tuple #[]) ∧ ∃ lv', Ln B bt bw lv' [123] 0 w' ∧ ButF bt lv w lv' w' := by
  have c1 := h.c1
  have hB := h.hB
  have hlt := h.lt
  obtain ⟨v0, o0, hsl, hob⟩ := own_cutF h.own
  go_enter Ybad.func25, Ybad.ntmps25
  go_wp2_with (at_builtin; refine wp_byteF w rfl _ _ rfl o0 rfl hB (by simp) 123 _ rfl rfl ?_)
  intro a1 n1 c1' w1 o1 b1
  have b1' := b1.below o0 hB
  obtain ⟨k1, k3⟩ := h.at b1'
  have L1 := h.store b1' o1
  have HOB := (show Hid _ from hob)
  have HB1 := (show Hid _ from b1)
  clear hob b1 b1'
  have k2 := L1.c2
  have k4 := L1.tr.frozen 2
  go_wp2
  go_end0
  exact ⟨rfl, _, L1.mem 0, ((ButF.of' HOB.out HB1.out).set 1 _).set 2 _⟩

set_option maxRecDepth 100000 in
theorem key0_F (B bt bw : Nat) (lv : Value) (l k : List UInt8) (w : World) (h : Ln B bt bw lv l 0 w) (hl : l.length + k.length ≤ 10000) :
    Calls Ybad.prog 27 #[.pointer (some ⟨bt, 1, none⟩), .string ⟨k.toArray⟩] w fun e w' => e = .returned (.tuple #[]) ∧ ∃ lv', Ln B bt bw lv' (l ++ 34 :: (k ++ [34, 58, 32])) 1 w' ∧ ButF bt lv w lv' w' := by
  have hlt := h.lt
  have c1 := h.c1
  have c2 := h.c2
  have f2 := h.f 2
  have L0 := h.mem 1
  have g1 := L0.c1
  have HL0 : Hid (Ln B bt bw lv l 1 (w.setCell ⟨bt, 2, none⟩ (.int .i64 ((1 : Nat) : Int)))) := L0
  clear L0
  go_enter Ybad.func27, Ybad.ntmps27
  go_wp2_with (go_at_call 33; refine (appendStringF B _ l k _ HL0.out.own HL0.out.hB (by omega)).mono ?_)
  rintro e w1 ⟨a1, n1, d1, rfl, o1, b1⟩
  obtain ⟨k1, k2⟩ := HL0.out.atF b1
  have L1 := HL0.out.storeF b1 o1
  have m1 := L1.c1
  have H1 : Hid (ButF bt lv w (.slice a1 n1 d1) (w1.setCell ⟨bt, 1, none⟩ (.slice a1 n1 d1))) := (((ButF.of (Fr.refl lv w)).set 2 _).trans (ButF.of b1)).set 1 _
  clear c1 c2 f2 g1 b1 HL0 h
  obtain ⟨W1, hW1⟩ : ∃ W, W = w1.setCell ⟨bt, 1, none⟩ (.slice a1 n1 d1) := ⟨_, rfl⟩
  rw [← hW1] at L1 H1 m1
  have HW1 : Hid (W1 = w1.setCell ⟨bt, 1, none⟩ (.slice a1 n1 d1)) := hW1
  have hW1' := hW1.symm
  clear hW1
  go_wp2_with (at_builtin; refine wp_strF W1 rfl _ _ rfl [58, 32] L1.own rfl L1.hB (by simp; omega) rfl ?_)
  intro v2 n2 d2 w2 o2 b2
  obtain ⟨k3, k4⟩ := L1.atF b2
  have L2 := L1.storeF b2 o2
  have H2 : Hid (ButF bt lv w (.slice v2 n2 d2) (w2.setCell ⟨bt, 1, none⟩ (.slice v2 n2 d2))) := (H1.out.trans (ButF.of b2)).set 1 _
  clear H1 k1 k2 hW1' m1
  go_wp2
  go_end0
  exact ⟨rfl, _, L2, H2.out⟩
set_option maxRecDepth 100000 in
theorem key1_F (B bt bw : Nat) (lv : Value) (l k : List UInt8) (w : World) (h : Ln B bt bw lv l 1 w) (hl : l.length + k.length ≤ 10000) :
    Calls Ybad.prog 27 #[.pointer (some ⟨bt, 1, none⟩), .string ⟨k.toArray⟩] w fun e w' => e = .returned (.tuple #[]) ∧ ∃ lv', Ln B bt bw lv' (l ++ 44 :: 32 :: 34 :: (k ++ [34, 58, 32])) 2 w' ∧ ButF bt lv w lv' w' := by
  have hlt := h.lt
  have c1 := h.c1
  have c2 := h.c2
  have f1 := h.f 1
  go_enter Ybad.func27, Ybad.ntmps27
  go_wp2_with (at_builtin; refine wp_strF w rfl _ _ rfl [44, 32] h.own rfl h.hB (by simp; omega) rfl ?_)
  intro v0 n0 d0 w0 o0 b0
  obtain ⟨k5, k6⟩ := h.atF b0
  have LA := h.storeF b0 o0
  have HA : Hid (ButF bt lv w (.slice v0 n0 d0) (w0.setCell ⟨bt, 1, none⟩ (.slice v0 n0 d0))) := (ButF.of b0).set 1 _
  have c2' := LA.c2
  have g0 := LA.c1
  have f2 := LA.f 2
  have L0 := LA.mem 2
  have g1 := L0.c1
  obtain ⟨W0, hW0⟩ : ∃ W, W = w0.setCell ⟨bt, 1, none⟩ (.slice v0 n0 d0) := ⟨_, rfl⟩
  rw [← hW0] at LA HA c2' f2 L0 g1 g0
  have hW0' := hW0.symm
  clear hW0
  have HL0 : Hid (Ln B bt bw (.slice v0 n0 d0) (l ++ [44, 32]) 2 (W0.setCell ⟨bt, 2, none⟩ (.int .i64 ((2 : Nat) : Int)))) := L0
  clear L0 c1 c2 f1 LA h o0 b0
  go_wp2_with (go_at_call 33; refine (appendStringF B _ (l ++ [44, 32]) k _ HL0.out.own HL0.out.hB (by simp; omega)).mono ?_)
  rintro e w1 ⟨a1, n1, d1, rfl, o1, b1⟩
  obtain ⟨k1, k2⟩ := HL0.out.atF b1
  have L1 := HL0.out.storeF b1 o1
  have m1 := L1.c1
  have H1 : Hid (ButF bt lv w (.slice a1 n1 d1) (w1.setCell ⟨bt, 1, none⟩ (.slice a1 n1 d1))) := ((HA.out.set 2 _).trans (ButF.of b1)).set 1 _
  clear c2' f2 g1 g0 b1 HL0 HA k5 k6 hW0'
  obtain ⟨W1, hW1⟩ : ∃ W, W = w1.setCell ⟨bt, 1, none⟩ (.slice a1 n1 d1) := ⟨_, rfl⟩
  rw [← hW1] at L1 H1 m1
  have hW1' := hW1.symm
  clear hW1
  go_wp2_with (at_builtin; refine wp_strF W1 rfl _ _ rfl [58, 32] L1.own rfl L1.hB (by simp; omega) rfl ?_)
  intro v2 n2 d2 w2 o2 b2
  obtain ⟨k3, k4⟩ := L1.atF b2
  have L2 := L1.storeF b2 o2
  have H2 : Hid (ButF bt lv w (.slice v2 n2 d2) (w2.setCell ⟨bt, 1, none⟩ (.slice v2 n2 d2))) := (H1.out.trans (ButF.of b2)).set 1 _
  clear H1 k1 k2 hW1' m1
  go_wp2
  go_end0
  refine ⟨rfl, .slice v2 n2 d2, ?_, H2.out⟩
  simpa using L2

set_option maxRecDepth 100000 in
theorem str0_F (B bt bw : Nat) (lv : Value) (l k v : List UInt8) (w : World) (h : Ln B bt bw lv l 0 w) (hl : l.length + k.length + v.length ≤ 1000) :
    Calls Ybad.prog 26 #[.pointer (some ⟨bt, 1, none⟩), .string ⟨k.toArray⟩, .string ⟨v.toArray⟩] w fun e w' => e = .returned (.tuple #[]) ∧ ∃ lv', Ln B bt bw lv' (l ++ 34 :: (k ++ 34 :: 58 :: 32 :: 34 :: (v ++ [34]))) 1 w' ∧ ButF bt lv w lv' w' := by
  have hlt := h.lt
  go_enter Ybad.func26, Ybad.ntmps26
  go_wp2_with (go_at_call 27; refine (key0_F B bt bw lv l k _ h (by omega)).mono ?_)
  rintro e w1 ⟨rfl, v1, L1, H1⟩
  have c1 := L1.c1
  clear h
  have HH : Hid (ButF bt lv w v1 w1) := H1
  clear H1
  go_wp2_with (go_at_call 33; refine (appendStringF B _ _ v _ L1.own L1.hB (by simp; omega)).mono ?_)
  rintro e w2 ⟨a1, n1, d1, rfl, o1, b1⟩
  obtain ⟨k1, k2⟩ := L1.atF b1
  have L2 := L1.storeF b1 o1
  have H2 : Hid (ButF bt lv w (.slice a1 n1 d1) (w2.setCell ⟨bt, 1, none⟩ (.slice a1 n1 d1))) := (HH.out.trans (ButF.of b1)).set 1 _
  go_wp2
  go_end0
  refine ⟨rfl, .slice a1 n1 d1, ?_, H2.out⟩
  simpa using L2

set_option maxRecDepth 100000 in
theorem integer1_F (B bt bw : Nat) (lv : Value) (l k : List UInt8) (v : Int) (h0 : -9223372036854775808 ≤ v) (h1 : v ≤ 9223372036854775807) (w : World) (h : Ln B bt bw lv l 1 w) (hl : l.length + k.length ≤ 1000)
    (htab : ∀ w' v', ButF bt lv w v' w' → Lib.TabBelow Ybad.prog B w' nPow .u64 Lib.pow10Tab) :
    Calls Ybad.prog 16 #[.pointer (some ⟨bt, 1, none⟩), .string ⟨k.toArray⟩, .int .i64 v] w fun e w' => e = .returned (.tuple #[]) ∧ ∃ lv', Ln B bt bw lv' (l ++ 44 :: 32 :: 34 :: (k ++ 34 :: 58 :: 32 :: Lib.itoa v)) 2 w' ∧ ButF bt lv w lv' w' := by
  have hlt := h.lt
  have HTB := (show Hid _ from htab)
  clear htab
  go_enter Ybad.func16, Ybad.ntmps16
  go_wp2_with (go_at_call 27; refine (key1_F B bt bw lv l k _ h (by omega)).mono ?_)
  rintro e w1 ⟨rfl, v1, L1, H1⟩
  have c1 := L1.c1
  clear h
  have HH : Hid (ButF bt lv w v1 w1) := H1
  clear H1
  go_wp2_with (go_at_call 28; refine (appendIntP B v h0 h1 _ _ _ L1.own L1.hB (by simp; omega) (HTB.out _ _ HH.out)).mono ?_)
  rintro e w2 ⟨a1, n1, d1, rfl, o1, b1⟩
  obtain ⟨k1, k2⟩ := L1.atF b1
  have L2 := L1.storeF b1 o1
  have H2 : Hid (ButF bt lv w (.slice a1 n1 d1) (w2.setCell ⟨bt, 1, none⟩ (.slice a1 n1 d1))) := (HH.out.trans (ButF.of b1)).set 1 _
  go_wp2
  go_end0
  refine ⟨rfl, .slice a1 n1 d1, ?_, H2.out⟩
  simpa using L2

set_option maxRecDepth 100000 in
theorem end_F (B bt bw mem : Nat) (lv : Value) (l : List UInt8) (w : World) (h : Ln B bt bw lv l mem w) (hl : l.length ≤ 1000) :
    Calls Ybad.prog 30 #[.pointer (some ⟨bt, 1, none⟩)] w fun e w' => ∃ a n c, e = .returned (.slice a n c) ∧ Ln B bt bw (.slice a n c) (l ++ [125, 10]) mem w' ∧ ButF bt lv w (.slice a n c) w' := by
  have hlt := h.lt
  have c1 := h.c1
  go_enter Ybad.func30, Ybad.ntmps30
  go_wp2_with (at_builtin; refine wp_strF w rfl _ _ rfl [125, 10] h.own rfl h.hB (by simp; omega) rfl ?_)
  intro v0 n0 d0 w0 o0 b0
  obtain ⟨k5, k6⟩ := h.atF b0
  have LA := h.storeF b0 o0
  have m1 := LA.c1
  have HA : Hid (ButF bt lv w (.slice v0 n0 d0) (w0.setCell ⟨bt, 1, none⟩ (.slice v0 n0 d0))) := (ButF.of b0).set 1 _
  go_wp2
  go_ret
  exact ⟨_, _, _, rfl, LA, HA.out⟩

set_option maxRecDepth 100000 in
theorem event_F (B bt bw mem : Nat) (lv : Value) (l v : List UInt8) (w : World) (h : Ln B bt bw lv l mem w) (hl : v.length ≤ 100) :
    Calls Ybad.prog 15 #[.pointer (some ⟨bt, 0, none⟩), .string ⟨v.toArray⟩] w fun e w' => e = .returned (.pointer (some ⟨bt, 1, none⟩)) ∧ ∃ lv', Ln B bt bw lv' (123 :: 34 :: 101 :: 118 :: 101 :: 110 :: 116 :: 34 :: 58 :: 32 :: 34 :: (v ++ [34])) 1 w' ∧ ButF bt lv w lv' w' := by
  go_enter Ybad.func15, Ybad.ntmps15
  go_wp2_with (go_at_call 25; refine (begin_F B bt bw mem lv l _ h).mono ?_)
  rintro e w1 ⟨rfl, v1, L1, H1⟩
  have HH : Hid (ButF bt lv w v1 w1) := H1
  clear H1 h
  go_wp2_with (go_at_call 26; refine (str0_F B bt bw v1 [123] [101, 118, 101, 110, 116] v _ L1 (by simp; omega)).mono ?_)
  rintro e w2 ⟨rfl, v2, L2, H2⟩
  have HH2 : Hid (ButF bt lv w v2 w2) := HH.out.trans H2
  clear H2
  go_wp2
  go_ret
  refine ⟨rfl, v2, ?_, HH2.out⟩
  simpa using L2
end Go.Proofs.YbulkbldsDoor
