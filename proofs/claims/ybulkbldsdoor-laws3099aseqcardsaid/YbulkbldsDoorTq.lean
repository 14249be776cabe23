/-
  The trace, its writer and one row beside.
-/
import Derived.Test.YbulkbldsDoorOver
namespace Go.Proofs.YbulkbldsDoor
open Go.Shelf Go.RowKit
variable {A B bt bw bb bz : Nat} {w0 : World}

/-- Two values own no block together. -/
def Apart (u v : Value) : Prop := ∀ k, u.ownBlock = some k → v.ownBlock ≠ some k
theorem Apart.symm {u v : Value} (h : Apart u v) : Apart v u := fun k h1 h2 => h k h2 h1

/-- The trace, its buffered writer, the writer under it, and one row beside. -/
structure Tq (A B bt bw bb bz : Nat) (w0 : World) (zv : Value) (zc : List UInt8) (wv : Value) (wl : List UInt8) (lv : Value) (l : List UInt8) (mem : Nat) (c : List UInt8) (w : World) : Prop where
  bel : Below A w0 w
  ln : Ln B bt bw lv l mem w
  bf : Bf bw bb bz c w
  cl : c.length ≤ 4096
  zw : w.rowIs bz 27 2 (zzc zv .nilIface)
  zo : Owns B zv zc w
  wo : Owns B wv wl w
  d1 : Apart zv lv
  d2 : Apart wv lv
  d3 : Apart wv zv

theorem own_lt {v : Value} {l : List UInt8} {w : World} (h : Owns B v l w) {k : Nat} (hk : v.ownBlock = some k) : B ≤ k ∧ k < w.heap.size := World.ownsRow.lt h k hk

theorem apart_new {u v v' : Value} {n : Nat} (h : Apart u v) (hu : ∀ k, u.ownBlock = some k → k < n) (ho : v'.ownBlock = v.ownBlock ∨ ∃ g, v'.ownBlock = some g ∧ n ≤ g) : Apart u v' := by
  intro k hk e
  rcases ho with e1 | ⟨g, e1, e2⟩
  · exact h k hk (e1 ▸ e)
  · rw [e1] at e
    injection e with e
    have := hu k hk
    omega

variable {zv wv lv : Value} {zc wl l c : List UInt8} {mem : Nat} {w w' : World}

theorem Tq.but {lv' : Value} {l' : List UInt8} {mem' : Nat} (P : Pl A B bt bw bb bz) (h : Tq A B bt bw bb bz w0 zv zc wv wl lv l mem c w) (hl : Ln B bt bw lv' l' mem' w') (hb : ButF bt lv w lv' w') : Tq A B bt bw bb bz w0 zv zc wv wl lv' l' mem' c w' := by
  have p1 := P.a1; have p2 := P.l1; have p3 := P.l2; have p4 := P.l3; have p5 := P.l4; have n1 := P.n1; have n2 := P.n2; have n3 := P.n3
  have hB := h.ln.hB
  have bt' := hb.but h.ln.own hB
  have keep : ∀ u m, Owns B u m w → Apart u lv → Owns B u m w' := fun u m ho ha => ho.keep (fun k hk => hb.block k (own_lt ho hk).2 (by have := (own_lt ho hk).1; omega) (fun e => ha k hk e.symm))
  refine ⟨h.bel.trans ⟨hb.os, hb.tape, hb.output, hb.size, fun k hk => bt'.block k (by omega) (by omega)⟩, hl, ⟨World.rowIs.of_block h.bf.wr (bt'.block bw p3 n1.symm), ?_, h.bf.ne⟩, h.cl, World.rowIs.of_block h.zw (bt'.block bz p5 n3.symm), keep _ _ h.zo h.d1, keep _ _ h.wo h.d2,
    apart_new h.d1 (fun k hk => (own_lt h.zo hk).2) hb.own, apart_new h.d2 (fun k hk => (own_lt h.wo hk).2) hb.own, h.d3⟩
  obtain ⟨cur, x1, x2, x3⟩ := h.bf.bf
  exact ⟨cur, (bt'.block bb p4 n2.symm).trans x1, x2, x3⟩

theorem Tq.wrote {zv' : Value} {zc' c' : List UInt8} (P : Pl A B bt bw bb bz) (h : Tq A B bt bw bb bz w0 zv zc wv wl lv l mem c w) (hf : Bf bw bb bz c' w') (hz : w'.rowIs bz 27 2 (zzc zv' .nilIface)) (ho : Owns B zv' zc' w') (hc : c'.length ≤ 4096) (hb : FrW bw bb bz zv w zv' w') :
    Tq A B bt bw bb bz w0 zv' zc' wv wl lv l mem c' w' := by
  have p1 := P.a2; have p2 := P.a3; have p3 := P.a4; have p4 := P.l1; have p5 := P.l2; have p6 := P.l3; have p7 := P.l4; have n1 := P.n1; have n2 := P.n2; have n3 := P.n3
  have hB := h.ln.hB
  have sz := hb.size
  have keep : ∀ u m, Owns B u m w → Apart u zv → Owns B u m w' := fun u m ho ha => ho.keep (fun k hk => hb.block k (own_lt ho hk).2 (by have := (own_lt ho hk).1; omega) (by have := (own_lt ho hk).1; omega) (by have := (own_lt ho hk).1; omega) (fun e => ha k hk e.symm))
  refine ⟨h.bel.trans ⟨hb.os, hb.tape, hb.output, hb.size, fun k hk => hb.block k (by omega) (by omega) (by omega) (by omega) (fun e => by have := (own_lt h.zo e.symm).1; have := P.a1; omega)⟩,
    ⟨h.ln.lt, by omega, World.rowIs.of_block h.ln.tr (hb.block bt (by omega) n1 n2 n3 (fun e => by have := (own_lt h.zo e.symm).1; omega)), keep _ _ h.ln.own h.d1.symm⟩, hf, hc, hz, ho, keep _ _ h.wo h.d3,
    (apart_new h.d1.symm (fun k hk => (own_lt h.ln.own hk).2) hb.own).symm, h.d2, apart_new h.d3 (fun k hk => (own_lt h.wo hk).2) hb.own⟩

theorem Tq.want {wv' : Value} {wl' : List UInt8} (P : Pl A B bt bw bb bz) (h : Tq A B bt bw bb bz w0 zv zc wv wl lv l mem c w) (ho : Owns B wv' wl' w') (hb : Fr wv w wv' w') : Tq A B bt bw bb bz w0 zv zc wv' wl' lv l mem c w' := by
  have p1 := P.a1; have p4 := P.l1; have p5 := P.l2; have p6 := P.l3; have p7 := P.l4
  have hB := h.ln.hB
  have sz := hb.size
  have bl := hb.below h.wo hB
  have keep : ∀ u m, Owns B u m w → Apart u wv → Owns B u m w' := fun u m ho ha => ho.keep (fun k hk => hb.block k (own_lt ho hk).2 (fun e => ha k hk e.symm))
  refine ⟨h.bel.trans (bl.mono (by omega)), ⟨h.ln.lt, by omega, World.rowIs.of_block h.ln.tr (bl.block bt p4), keep _ _ h.ln.own h.d2.symm⟩, ⟨World.rowIs.of_block h.bf.wr (bl.block bw p5), ?_, h.bf.ne⟩, h.cl, World.rowIs.of_block h.zw (bl.block bz p7), keep _ _ h.zo h.d3.symm, ho, h.d1,
    (apart_new h.d2.symm (fun k hk => (own_lt h.ln.own hk).2) hb.own).symm, (apart_new h.d3.symm (fun k hk => (own_lt h.zo hk).2) hb.own).symm⟩
  obtain ⟨cur, x1, x2, x3⟩ := h.bf.bf
  exact ⟨cur, (bl.block bb p6).trans x1, x2, x3⟩

theorem Tq.drew (h : Tq A B bt bw bb bz w0 zv zc wv wl lv l mem c w) : Tq A B bt bw bb bz w0 zv zc wv wl lv l mem c w.drew :=
  ⟨⟨h.bel.os, h.bel.tape, h.bel.output, h.bel.size, h.bel.block⟩, ⟨h.ln.lt, h.ln.hB, h.ln.tr, h.ln.own⟩, ⟨h.bf.wr, h.bf.bf, h.bf.ne⟩, h.cl, h.zw, h.zo, h.wo, h.d1, h.d2, h.d3⟩
theorem Tq.c0 (h : Tq A B bt bw bb bz w0 zv zc wv wl lv l mem c w) : w.cell? ⟨bt, 0, none⟩ = some (.pointer (some ⟨bw, 0, none⟩)) := h.ln.tr.cell (by omega)
theorem Tq.c3 (h : Tq A B bt bw bb bz w0 zv zc wv wl lv l mem c w) : w.cell? ⟨bt, 3, none⟩ = some .nilIface := h.ln.tr.cell (by omega)
theorem Tq.f3 (h : Tq A B bt bw bb bz w0 zv zc wv wl lv l mem c w) : w.frozen? ⟨bt, 3, none⟩ = false := h.ln.tr.frozen 3

theorem end_tq (P : Pl A B bt bw bb bz) (h : Tq A B bt bw bb bz w0 zv zc wv wl lv l mem c w) (hl : l.length ≤ 1000) :
    Calls Ybad.prog 30 #[.pointer (some ⟨bt, 1, none⟩)] w fun e w' => ∃ a n c', e = .returned (.slice a n c') ∧ Tq A B bt bw bb bz w0 zv zc wv wl (.slice a n c') (l ++ [125, 10]) mem c w' :=
  (end_F B bt bw mem lv l w h.ln hl).mono fun _ _ ⟨a, n, c', he, hL, hB⟩ => ⟨a, n, c', he, h.but P hL hB⟩

/-- Write, whether the bytes fit or not. -/
theorem write_tq (P : Pl A B bt bw bb bz) {a : Option Addr} {n cp : Nat} (h : Tq A B bt bw bb bz w0 zv zc wv wl (.slice a n cp) l mem c w) (hl : 0 < l.length) (hl' : l.length ≤ 4000) (hzc : zc.length ≤ 900000) :
    Calls Ybad.prog 29 #[.pointer (some ⟨bw, 0, none⟩), .slice a n cp] w fun e w' => e = .returned (.tuple #[.int .i64 l.length, .nilIface]) ∧ ∃ zv' zc' c', zc' ++ c' = zc ++ (c ++ l) ∧ Tq A B bt bw bb bz w0 zv' zc' wv wl (.slice a n cp) l mem c' w' := by
  by_cases hf : c.length + l.length ≤ 4096
  · refine (write_fit B bw bb bz a n cp c l w h.ln.own hl hf h.bf).mono fun _ w' ⟨he, hF, hT⟩ => ⟨he, zv, zc, c ++ l, rfl, ?_⟩
    have n4 := P.n4; have n5 := P.n5; have p5 := P.l2; have p6 := P.l3
    refine h.wrote P hF (World.rowIs.of_block h.zw (hT.block bz n4 n5)) (h.zo.keep (fun k hk => hT.block k (by have := (own_lt h.zo hk).1; omega) (by have := (own_lt h.zo hk).1; omega))) (by simp; omega) (FrW.of_two hT)
  · obtain ⟨g, rfl⟩ : ∃ g, a = some ⟨g, 0, none⟩ := by
      obtain ⟨_, ⟨h0, h1⟩ | ⟨g', cap, cur', hv, _⟩⟩ := id h.ln.own
      · omega
      · injection hv with v1 v2 v3
        exact ⟨g', v1⟩
    refine (write_over zv zc g n cp c l w h.ln.own hl' h.cl (by omega) h.bf h.zw h.zo hzc (fun e => h.d1 g e.symm rfl) P.n4 P.n5 P.l2 P.l3 P.l4 h.ln.hB).mono fun _ w' ⟨he, zv', zc', c', x1, x2, x3, x4, x5, x6⟩ => ⟨he, zv', zc', c', x4, h.wrote P x1 x2 x3 x5 x6⟩

set_option maxRecDepth 100000 in
theorem trwrite_tq (P : Pl A B bt bw bb bz) (h : Tq A B bt bw bb bz w0 zv zc wv wl lv l mem c w) (hl : l.length ≤ 1000) (hzc : zc.length ≤ 900000) :
    Calls Ybad.prog 17 #[.pointer (some ⟨bt, 0, none⟩)] w fun e w' => e = .returned (.tuple #[]) ∧ ∃ zv' zc' c' lv', zc' ++ c' = zc ++ (c ++ (l ++ [125, 10])) ∧ Tq A B bt bw bb bz w0 zv' zc' wv wl lv' (l ++ [125, 10]) mem c' w' := by
  have k0 := h.c0
  have HH : Hid (Tq A B bt bw bb bz w0 zv zc wv wl lv l mem c w) := h
  clear h
  go_enter Ybad.func17, Ybad.ntmps17
  go_wp2_with fail
  go_region_held3 (fun w' => w'.cell? ⟨bt, 0, none⟩ = some (.pointer (some ⟨bw, 0, none⟩)))
    (first | exact k0 | exact T1.out.c0 | exact T2.out.2.c0)
    (first | (go_at_call 30; refine (end_tq (w0 := w0) (zv := zv) (zc := zc) (wv := wv) (wl := wl) (mem := mem) (lv := lv) (c := c) P ?_ hl).mono ?_; (· first | exact HH.out | exact HH.out.drew); (rintro e w1 ⟨a1, n1, d1, rfl, T1'⟩; have T1 := (show Hid _ from T1'); clear T1')) | (go_at_call 29; refine (write_tq (w0 := w0) (zv := zv) (zc := zc) (wv := wv) (wl := wl) (mem := mem) (l := l ++ [125, 10]) (c := c) P ?_ ?_ ?_ hzc).mono ?_; (· first | exact T1.out | exact T1.out.drew); (· simp); (· simp; omega); (rintro e w2 ⟨rfl, zv', zc', c', T2'⟩; have T2 := (show Hid _ from T2'); clear T2')))
  go_wp2_with fail
  go_end0
  exact ⟨rfl, zv', zc', c', _, T2.out.1, T2.out.2⟩
end Go.Proofs.YbulkbldsDoor
