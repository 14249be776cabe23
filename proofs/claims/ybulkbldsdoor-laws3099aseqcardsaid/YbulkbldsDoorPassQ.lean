/-
  pass and Flush, the rows apart.
-/
import Derived.Test.YbulkbldsDoorTq
import Derived.Test.YbulkbldsDoorZintF
import Derived.Test.YbulkbldsDoorOne
namespace Go.Proofs.YbulkbldsDoor
open Go.Shelf Go.RowKit
variable {A B bt bw bb bz : Nat} {w0 : World} {zv wv lv : Value} {zc wl l c : List UInt8} {mem : Nat} {w w' : World}

theorem event_tq (P : Pl A B bt bw bb bz) (h : Tq A B bt bw bb bz w0 zv zc wv wl lv l mem c w) :
    Calls Ybad.prog 15 #[.pointer (some ⟨bt, 0, none⟩), .string ⟨#[112, 97, 115, 115]⟩] w fun e w' => e = .returned (.pointer (some ⟨bt, 1, none⟩)) ∧ ∃ lv', Tq A B bt bw bb bz w0 zv zc wv wl lv' [123, 34, 101, 118, 101, 110, 116, 34, 58, 32, 34, 112, 97, 115, 115, 34] 1 c w' :=
  (event_F B bt bw mem lv l [112, 97, 115, 115] w h.ln (by simp)).mono fun _ _ ⟨he, v, hL, hB⟩ => ⟨he, v, h.but P hL hB⟩

theorem integer_tq (P : Pl A B bt bw bb bz) (v : Int) (h0 : -9223372036854775808 ≤ v) (h1 : v ≤ 9223372036854775807) (h : Tq A B bt bw bb bz w0 zv zc wv wl lv l 1 c w) (hl : l.length ≤ 100)
    (htab : Lib.TabBelow Ybad.prog A w0 nPow .u64 Lib.pow10Tab) :
    Calls Ybad.prog 16 #[.pointer (some ⟨bt, 1, none⟩), .string ⟨#[112, 108, 97, 121, 101, 114]⟩, .int .i64 v] w fun e w' => e = .returned (.tuple #[]) ∧ ∃ lv', Tq A B bt bw bb bz w0 zv zc wv wl lv' (l ++ 44 :: 32 :: 34 :: 112 :: 108 :: 97 :: 121 :: 101 :: 114 :: 34 :: 58 :: 32 :: Lib.itoa v) 2 c w' := by
  refine (integer1_F B bt bw lv l [112, 108, 97, 121, 101, 114] v h0 h1 w h.ln (by simp; omega) ?_).mono fun _ _ ⟨he, u, hL, hB⟩ => ⟨he, u, h.but P hL hB⟩
  intro w' v' hb w'' hb'
  have p1 := P.a1
  have p2 := P.l1
  have hb2 := hb.but h.ln.own h.ln.hB
  exact htab w'' ((h.bel.trans ⟨hb2.os, hb2.tape, hb2.output, hb2.size, fun k hk => hb2.block k (by omega) (by omega)⟩).trans (hb'.mono (by omega)))

set_option maxRecDepth 100000 in
theorem pass_tq (P : Pl A B bt bw bb bz) (v : Int) (h0 : -9223372036854775808 ≤ v) (h1 : v ≤ 9223372036854775807) (h : Tq A B bt bw bb bz w0 zv zc wv wl lv l mem c w) (hzc : zc.length ≤ 900000)
    (htab : Lib.TabBelow Ybad.prog A w0 nPow .u64 Lib.pow10Tab) :
    Calls Ybad.prog 8 #[.pointer (some ⟨bt, 0, none⟩), .int .i64 v] w fun e w' => e = .returned (.tuple #[]) ∧ ∃ zv' zc' c' lv' l' mem', zc' ++ c' = zc ++ (c ++ lineOf v) ∧ Tq A B bt bw bb bz w0 zv' zc' wv wl lv' l' mem' c' w' := by
  have HTB : Hid (Lib.TabBelow Ybad.prog A w0 nPow .u64 Lib.pow10Tab) := htab
  have HH : Hid (Tq A B bt bw bb bz w0 zv zc wv wl lv l mem c w) := h
  clear htab h
  have hi := Lib.itoa_length_le v h0 h1
  go_enter Ybad.func8, Ybad.ntmps8
  go_wp2_with (go_at_call 15; refine (event_tq (w0 := w0) (zv := zv) (zc := zc) (wv := wv) (wl := wl) (mem := mem) (lv := lv) (l := l) (c := c) P HH.out).mono ?_; rintro e w1 ⟨rfl, v1, T1⟩; have H1 := (show Hid _ from T1); clear T1)
  go_wp2_with (go_at_call 16; refine (integer_tq (w0 := w0) (zv := zv) (zc := zc) (wv := wv) (wl := wl) (lv := v1) (c := c) P v h0 h1 H1.out (by simp) HTB.out).mono ?_; rintro e w2 ⟨rfl, v2, T2⟩; have H2 := (show Hid _ from T2); clear T2)
  go_wp2_with (go_at_call 17; refine (trwrite_tq (w0 := w0) (zv := zv) (zc := zc) (wv := wv) (wl := wl) (c := c) P H2.out (by simp; omega) hzc).mono ?_; rintro e w3 ⟨rfl, zv', zc', c', lv', T3⟩; have H3 := (show Hid _ from T3); clear T3)
  go_wp2_with fail
  go_end0
  obtain ⟨e3, T⟩ := H3.out
  rw [show ([123, 34, 101, 118, 101, 110, 116, 34, 58, 32, 34, 112, 97, 115, 115, 34] ++ 44 :: 32 :: 34 :: 112 :: 108 :: 97 :: 121 :: 101 :: 114 :: 34 :: 58 :: 32 :: Lib.itoa v ++ [125, 10] : List UInt8) = lineOf v from by simp [lineOf]] at e3 T
  exact ⟨rfl, zv', zc', c', lv', _, _, e3, T⟩

set_option maxRecDepth 100000 in
theorem tflush_tq (P : Pl A B bt bw bb bz) (h : Tq A B bt bw bb bz w0 zv zc wv wl lv l mem c w) (hzc : zc.length ≤ 900000) :
    Calls Ybad.prog 9 #[.pointer (some ⟨bt, 0, none⟩)] w fun e w' => e = .returned .nilIface ∧ Below A w0 w' ∧ ∃ zv', w'.cell? ⟨bz, 0, none⟩ = some zv' ∧ Owns B zv' (zc ++ c) w' ∧ Owns B wv wl w' ∧ B ≤ w'.heap.size ∧ bz < B := by
  have k0 := h.c0
  have k3 := h.c3
  have f3 := h.f3
  have p1 := P.a1; have n3 := P.n3; have n1 := P.n1; have l1 := P.l1; have l4 := P.l4
  have hB := h.ln.hB
  have HH : Hid (Tq A B bt bw bb bz w0 zv zc wv wl lv l mem c w) := h
  clear h
  by_cases hc : 0 < c.length
  · go_enter Ybad.func9, Ybad.ntmps9
    go_wp2_with fail
    refine (flush_F (B := B) zv zc bw bb bz c _ HH.out.bf hc HH.out.cl HH.out.zw HH.out.zo (by omega) P.n4 P.l2 P.l4 hB).mono ?_
    rintro e w1 ⟨rfl, a, n, c', w2, hw1', f2, o1⟩
    have hw1 := (show Hid _ from hw1')
    clear hw1'
    obtain ⟨Y1, Y2, Y3⟩ := flush_state HH.out.bf HH.out.zw HH.out.zo P.n4 P.n5 P.l2 P.l3 P.l4 hB f2
    rw [← hw1.out] at Y1 Y2 Y3
    have T := HH.out.wrote P Y1 Y2 o1 (by simp) Y3
    have g3 := T.c3
    have gf := T.f3
    have R : Hid (Below A w0 (w1.setCell ⟨bt, 3, none⟩ .nilIface) ∧ (w1.setCell ⟨bt, 3, none⟩ .nilIface).cell? ⟨bz, 0, none⟩ = some (.slice a n c') ∧ Owns B (.slice a n c') (zc ++ c) (w1.setCell ⟨bt, 3, none⟩ .nilIface) ∧ Owns B wv wl (w1.setCell ⟨bt, 3, none⟩ .nilIface) ∧ B ≤ (w1.setCell ⟨bt, 3, none⟩ .nilIface).heap.size) := by
      refine ⟨T.bel.setCell (p := ⟨bt, 3, none⟩) p1 _, ?_, ownsRow_setCell_below T.zo l1 _, ownsRow_setCell_below T.wo l1 _, by have := T.ln.hB; simp; omega⟩
      rw [World.cell?_setCell_far _ _ _ _ (by simpa using n3)]
      exact T.zw.cell (by omega)
    clear hw1 f2 o1 Y1 Y2 Y3 T k0 k3 f3
    go_wp2_with fail
    go_ret
    exact ⟨rfl, R.out.1, _, R.out.2.1, R.out.2.2.1, R.out.2.2.2.1, R.out.2.2.2.2, l4⟩
  · obtain rfl : c = [] := List.length_eq_zero_iff.1 (by omega)
    have R : Hid (Below A w0 (w.setCell ⟨bt, 3, none⟩ .nilIface) ∧ (w.setCell ⟨bt, 3, none⟩ .nilIface).cell? ⟨bz, 0, none⟩ = some zv ∧ Owns B zv (zc ++ []) (w.setCell ⟨bt, 3, none⟩ .nilIface) ∧ Owns B wv wl (w.setCell ⟨bt, 3, none⟩ .nilIface) ∧ B ≤ (w.setCell ⟨bt, 3, none⟩ .nilIface).heap.size) := by
      refine ⟨HH.out.bel.setCell (p := ⟨bt, 3, none⟩) p1 _, ?_, ?_, ownsRow_setCell_below HH.out.wo l1 _, by simp; omega⟩
      · rw [World.cell?_setCell_far _ _ _ _ (by simpa using n3)]
        exact HH.out.zw.cell (by omega)
      · rw [List.append_nil]; exact ownsRow_setCell_below HH.out.zo l1 _
    go_enter Ybad.func9, Ybad.ntmps9
    go_wp2_with (go_at_call 18; refine (flush_empty bw bb bz _ HH.out.bf).mono ?_; rintro e w1 ⟨rfl, rfl⟩)
    go_wp2_with fail
    go_ret
    exact ⟨rfl, R.out.1, _, R.out.2.1, R.out.2.2.1, R.out.2.2.2.1, R.out.2.2.2.2, l4⟩
end Go.Proofs.YbulkbldsDoor
