/-
  The trace's state; write; pass.
-/
import Derived.Test.YbulkbldsDoorBuf
import Derived.Lib.ItoaLen
namespace Go.Proofs.YbulkbldsDoor
open Go.Shelf Go.RowKit

/-- The numbers of the blocks: the law's own begin at A; the line's bytes lie from B on. -/
structure Pl (A B bt bw bb bz : Nat) : Prop where
  a1 : A ≤ bt
  a2 : A ≤ bw
  a3 : A ≤ bb
  a4 : A ≤ bz
  l1 : bt < B
  l2 : bw < B
  l3 : bb < B
  l4 : bz < B
  n1 : bt ≠ bw
  n2 : bt ≠ bb
  n3 : bt ≠ bz
  n4 : bz ≠ bw
  n5 : bz ≠ bb

/-- The trace, its buffered writer holding the bytes c, and the writer under it. -/
structure Tr (A B bt bw bb bz : Nat) (w0 : World) (zz : Nat → Value) (lv : Value) (l : List UInt8) (mem : Nat) (c : List UInt8) (w : World) : Prop where
  bel : Below A w0 w
  ln : Ln B bt bw lv l mem w
  bf : Bf bw bb bz c w
  zw : w.rowIs bz 27 2 zz

variable {A B bt bw bb bz : Nat} {w0 : World} {zz : Nat → Value}

theorem Tr.drewN {lv : Value} {l : List UInt8} {mem : Nat} {c : List UInt8} {w : World} (h : Tr A B bt bw bb bz w0 zz lv l mem c w) (q : Nat) : Tr A B bt bw bb bz w0 zz lv l mem c (w.drewN q) :=
  ⟨⟨h.bel.os, h.bel.tape, h.bel.output, h.bel.size, h.bel.block⟩, ⟨h.ln.lt, h.ln.hB, h.ln.tr, h.ln.own⟩, ⟨h.bf.wr, h.bf.bf, h.bf.ne⟩, h.zw⟩
theorem Tr.drew {lv : Value} {l : List UInt8} {mem : Nat} {c : List UInt8} {w : World} (h : Tr A B bt bw bb bz w0 zz lv l mem c w) : Tr A B bt bw bb bz w0 zz lv l mem c w.drew :=
  ⟨⟨h.bel.os, h.bel.tape, h.bel.output, h.bel.size, h.bel.block⟩, ⟨h.ln.lt, h.ln.hB, h.ln.tr, h.ln.own⟩, ⟨h.bf.wr, h.bf.bf, h.bf.ne⟩, h.zw⟩

theorem Tr.but {lv lv' : Value} {l l' : List UInt8} {mem mem' : Nat} {c : List UInt8} {w w' : World} (P : Pl A B bt bw bb bz) (h : Tr A B bt bw bb bz w0 zz lv l mem c w) (hl : Ln B bt bw lv' l' mem' w') (hb : But B bt w w') : Tr A B bt bw bb bz w0 zz lv' l' mem' c w' := by
  obtain ⟨a1, a2, a3, a4, l1, l2, l3, l4, n1, n2, n3, n4, n5⟩ := P
  refine ⟨h.bel.trans ⟨hb.os, hb.tape, hb.output, hb.size, fun k hk => hb.block k (by omega) (by omega)⟩, hl, ⟨World.rowIs.of_block h.bf.wr (hb.block bw l2 n1.symm), ?_, h.bf.ne⟩, World.rowIs.of_block h.zw (hb.block bz l4 n3.symm)⟩
  obtain ⟨cur, x1, x2, x3⟩ := h.bf.bf
  exact ⟨cur, (hb.block bb l3 n2.symm).trans x1, x2, x3⟩

theorem Tr.two {lv : Value} {l : List UInt8} {mem : Nat} {c c' : List UInt8} {w w' : World} (P : Pl A B bt bw bb bz) (h : Tr A B bt bw bb bz w0 zz lv l mem c w) (hf : Bf bw bb bz c' w') (hb : Two bw bb w w') : Tr A B bt bw bb bz w0 zz lv l mem c' w' := by
  obtain ⟨a1, a2, a3, a4, l1, l2, l3, l4, n1, n2, n3, n4, n5⟩ := P
  refine ⟨h.bel.trans ⟨hb.os, hb.tape, hb.output, by rw [hb.size]; exact Nat.le_refl _, fun k hk => hb.block k (by omega) (by omega)⟩, ⟨h.ln.lt, by rw [hb.size]; exact h.ln.hB, World.rowIs.of_block h.ln.tr (hb.block bt n1 n2), ?_⟩, hf, World.rowIs.of_block h.zw (hb.block bz n4 n5)⟩
  obtain ⟨x1, x2 | ⟨g, cap, cur, e1, e2, e3, e4⟩⟩ := h.ln.own
  · exact ⟨x1, .inl x2⟩
  · exact ⟨x1, .inr ⟨g, cap, cur, e1, e2, (hb.block g (by omega) (by omega)).trans e3, e4⟩⟩

theorem Tr.c0 {lv : Value} {l : List UInt8} {mem : Nat} {c : List UInt8} {w : World} (h : Tr A B bt bw bb bz w0 zz lv l mem c w) : w.cell? ⟨bt, 0, none⟩ = some (.pointer (some ⟨bw, 0, none⟩)) := h.ln.tr.cell (by omega)
theorem Tr.c3 {lv : Value} {l : List UInt8} {mem : Nat} {c : List UInt8} {w : World} (h : Tr A B bt bw bb bz w0 zz lv l mem c w) : w.cell? ⟨bt, 3, none⟩ = some .nilIface := h.ln.tr.cell (by omega)

theorem end_tr (P : Pl A B bt bw bb bz) {mem : Nat} {lv : Value} {l c : List UInt8} {w : World} (h : Tr A B bt bw bb bz w0 zz lv l mem c w) (hl : l.length ≤ 1000) :
    Calls Ybad.prog 30 #[.pointer (some ⟨bt, 1, none⟩)] w fun e w' => ∃ a n c', e = .returned (.slice a n c') ∧ Tr A B bt bw bb bz w0 zz (.slice a n c') (l ++ [125, 10]) mem c w' :=
  (end_any B bt bw mem lv l w h.ln hl).mono fun _ _ ⟨a, n, c', he, hL, hB⟩ => ⟨a, n, c', he, h.but P hL hB⟩

theorem write_tr (P : Pl A B bt bw bb bz) {mem : Nat} {a : Option Addr} {n cp : Nat} {l c : List UInt8} {w : World} (h : Tr A B bt bw bb bz w0 zz (.slice a n cp) l mem c w) (hl : 0 < l.length) (hfit : c.length + l.length ≤ 4096) :
    Calls Ybad.prog 29 #[.pointer (some ⟨bw, 0, none⟩), .slice a n cp] w fun e w' => e = .returned (.tuple #[.int .i64 l.length, .nilIface]) ∧ Tr A B bt bw bb bz w0 zz (.slice a n cp) l mem (c ++ l) w' :=
  (write_fit B bw bb bz a n cp c l w h.ln.own hl hfit h.bf).mono fun _ _ ⟨he, hF, hT⟩ => ⟨he, h.two P hF hT⟩

set_option maxRecDepth 100000 in
theorem trwrite_any (P : Pl A B bt bw bb bz) {mem : Nat} {lv : Value} {l c : List UInt8} {w : World} (h : Tr A B bt bw bb bz w0 zz lv l mem c w) (hl : l.length ≤ 1000) (hfit : c.length + l.length + 2 ≤ 4096) :
    Calls Ybad.prog 17 #[.pointer (some ⟨bt, 0, none⟩)] w fun e w' => e = .returned (.tuple #[]) ∧ ∃ lv', Tr A B bt bw bb bz w0 zz lv' (l ++ [125, 10]) mem (c ++ (l ++ [125, 10])) w' := by
  have k0 := h.c0
  have HH : Hid (Tr A B bt bw bb bz w0 zz lv l mem c w) := h
  clear h
  go_enter Ybad.func17, Ybad.ntmps17
  go_wp2_with fail
  go_region_held3 (fun w' => w'.cell? ⟨bt, 0, none⟩ = some (.pointer (some ⟨bw, 0, none⟩)))
    (first | exact k0 | exact T1.out.c0 | exact T2.out.c0)
    (first | (go_at_call 30; refine (end_tr (w0 := w0) (zz := zz) (mem := mem) (lv := lv) (c := c) P ?_ hl).mono ?_; (· first | exact HH.out | exact HH.out.drew); (rintro e w1 ⟨a1, n1, d1, rfl, T1'⟩; have T1 := (show Hid _ from T1'); clear T1')) | (go_at_call 29; refine (write_tr (w0 := w0) (zz := zz) (mem := mem) (l := l ++ [125, 10]) (c := c) P ?_ ?_ ?_).mono ?_; (· first | exact T1.out | exact T1.out.drew); (· simp); (· simp; omega); (rintro e w2 ⟨rfl, T2'⟩; have T2 := (show Hid _ from T2'); clear T2')))
  go_wp2_with fail
  go_end0
  exact ⟨rfl, _, T2.out⟩

/-- The line of a pass. -/
def lineOf (v : Int) : List UInt8 := 123 :: 34 :: 101 :: 118 :: 101 :: 110 :: 116 :: 34 :: 58 :: 32 :: 34 :: 112 :: 97 :: 115 :: 115 :: 34 :: 44 :: 32 :: 34 :: 112 :: 108 :: 97 :: 121 :: 101 :: 114 :: 34 :: 58 :: 32 :: (Lib.itoa v ++ [125, 10])

theorem event_tr (P : Pl A B bt bw bb bz) {mem : Nat} {lv : Value} {l c : List UInt8} {w : World} (h : Tr A B bt bw bb bz w0 zz lv l mem c w) :
    Calls Ybad.prog 15 #[.pointer (some ⟨bt, 0, none⟩), .string ⟨#[112, 97, 115, 115]⟩] w fun e w' => e = .returned (.pointer (some ⟨bt, 1, none⟩)) ∧ ∃ lv', Tr A B bt bw bb bz w0 zz lv' [123, 34, 101, 118, 101, 110, 116, 34, 58, 32, 34, 112, 97, 115, 115, 34] 1 c w' :=
  (event_any B bt bw mem lv l [112, 97, 115, 115] w h.ln (by simp)).mono fun _ _ ⟨he, v, hL, hB⟩ => ⟨he, v, h.but P hL hB⟩

theorem integer_tr (P : Pl A B bt bw bb bz) {lv : Value} {l c : List UInt8} {w : World} (v : Int) (h0 : -9223372036854775808 ≤ v) (h1 : v ≤ 9223372036854775807) (h : Tr A B bt bw bb bz w0 zz lv l 1 c w) (hl : l.length ≤ 100)
    (htab : Lib.TabBelow Ybad.prog A w0 nPow .u64 Lib.pow10Tab) :
    Calls Ybad.prog 16 #[.pointer (some ⟨bt, 1, none⟩), .string ⟨#[112, 108, 97, 121, 101, 114]⟩, .int .i64 v] w fun e w' => e = .returned (.tuple #[]) ∧ ∃ lv', Tr A B bt bw bb bz w0 zz lv' (l ++ 44 :: 32 :: 34 :: 112 :: 108 :: 97 :: 121 :: 101 :: 114 :: 34 :: 58 :: 32 :: Lib.itoa v) 2 c w' := by
  refine (integer1_any B bt bw lv l [112, 108, 97, 121, 101, 114] v h0 h1 w h.ln (by simp; omega) ?_).mono fun _ _ ⟨he, u, hL, hB⟩ => ⟨he, u, h.but P hL hB⟩
  intro w' hb w'' hb'
  have p1 := P.a1
  have p2 := P.l1
  exact htab w'' ((h.bel.trans ⟨hb.os, hb.tape, hb.output, hb.size, fun k hk => hb.block k (by omega) (by omega)⟩).trans (hb'.mono (by omega)))

set_option maxRecDepth 100000 in
theorem pass_any (P : Pl A B bt bw bb bz) {mem : Nat} {lv : Value} {l c : List UInt8} {w : World} (v : Int) (h0 : -9223372036854775808 ≤ v) (h1 : v ≤ 9223372036854775807) (h : Tr A B bt bw bb bz w0 zz lv l mem c w) (hfit : c.length + 60 ≤ 4096)
    (htab : Lib.TabBelow Ybad.prog A w0 nPow .u64 Lib.pow10Tab) :
    Calls Ybad.prog 8 #[.pointer (some ⟨bt, 0, none⟩), .int .i64 v] w fun e w' => e = .returned (.tuple #[]) ∧ ∃ lv' l' mem', Tr A B bt bw bb bz w0 zz lv' l' mem' (c ++ lineOf v) w' := by
  have HTB : Hid (Lib.TabBelow Ybad.prog A w0 nPow .u64 Lib.pow10Tab) := htab
  have HH : Hid (Tr A B bt bw bb bz w0 zz lv l mem c w) := h
  clear htab h
  have hi := Lib.itoa_length_le v h0 h1
  go_enter Ybad.func8, Ybad.ntmps8
  go_wp2_with (go_at_call 15; refine (event_tr (w0 := w0) (zz := zz) (mem := mem) (lv := lv) (l := l) (c := c) P HH.out).mono ?_)
  rintro e w1 ⟨rfl, v1, T1⟩
  have H1 := (show Hid _ from T1)
  clear T1
  go_wp2_with (go_at_call 16; refine (integer_tr (w0 := w0) (zz := zz) (lv := v1) (c := c) P v h0 h1 H1.out (by simp) HTB.out).mono ?_)
  rintro e w2 ⟨rfl, v2, T2⟩
  have H2 := (show Hid _ from T2)
  clear T2
  go_wp2_with (go_at_call 17; refine (trwrite_any (w0 := w0) (zz := zz) (c := c) P H2.out (by simp; omega) (by simp; omega)).mono ?_)
  rintro e w3 ⟨rfl, v3, T3⟩
  have H3 := (show Hid _ from T3)
  clear T3
  go_wp2_with fail
  go_end0
  have T := H3.out
  rw [show ([123, 34, 101, 118, 101, 110, 116, 34, 58, 32, 34, 112, 97, 115, 115, 34] ++ 44 :: 32 :: 34 :: 112 :: 108 :: 97 :: 121 :: 101 :: 114 :: 34 :: 58 :: 32 :: Lib.itoa v ++ [125, 10] : List UInt8) = lineOf v from by simp [lineOf]] at T
  exact ⟨rfl, v3, _, _, T⟩
end Go.Proofs.YbulkbldsDoor
