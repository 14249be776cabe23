/-
  Flush.
-/
import Derived.Test.YbulkbldsDoorNew
import Derived.Deep.QuietTactic
import Derived.BigQuiet
namespace Go.Proofs.YbulkbldsDoor
open Go.Shelf Go.RowKit
variable {A B bt bw bb bz : Nat} {w0 : World} {zz : Nat → Value}

/-- The stand-in writer's two cells. -/
def zzc (bv fl : Value) (i : Nat) : Value := if i = 0 then bv else fl

/-- The state that NewTrace leaves. -/
theorem tr_new (w w0 : World) (cur : List Value) (hlen : cur.length = 4096) (bz : Nat) (zz : Nat → Value) (hz : w.rowIs bz 27 2 zz) (hA : A ≤ w.heap.size) (hbz : A ≤ bz) (bel : Below A w0 w) :
    Pl A (w.heap.size + 3) (w.heap.size + 2) (w.heap.size + 1) w.heap.size bz ∧
    Tr A (w.heap.size + 3) (w.heap.size + 2) (w.heap.size + 1) w.heap.size bz w0 zz (.slice none 0 0) [] 0 []
      (((w.alloc (.cells cur.toArray 5)).alloc (.cells #[.nilIface, .slice (some ⟨w.heap.size, 0, none⟩) 4096 4096, .int .i64 0, .iface 22 (.pointer (some ⟨bz, 0, none⟩))] 125)).alloc (.cells #[.pointer (some ⟨w.heap.size + 1, 0, none⟩), .slice none 0 0, .int .i64 0, .nilIface] 107)) := by
  have hlt := hz.lt
  refine ⟨⟨by omega, by omega, by omega, by omega, by omega, by omega, by omega, by omega, by omega, by omega, by omega, by omega, by omega⟩, ?_, ⟨by omega, by simp, ?_, Owns.nil _ _⟩, ⟨?_, ⟨cur, ?_, hlen, by simp [Lib.byteCells]⟩, by omega⟩, ?_⟩
  · exact ((bel.alloc hA _).alloc (by simp; omega) _).alloc (by simp; omega) _
  · refine ⟨#[.pointer (some ⟨w.heap.size + 1, 0, none⟩), .slice none 0 0, .int .i64 0, .nilIface], ?_, rfl, ?_⟩
    · have h := Go.Deep.blk_alloc_new ((w.alloc (.cells cur.toArray 5)).alloc (.cells #[.nilIface, .slice (some ⟨w.heap.size, 0, none⟩) 4096 4096, .int .i64 0, .iface 22 (.pointer (some ⟨bz, 0, none⟩))] 125)) (.cells #[.pointer (some ⟨w.heap.size + 1, 0, none⟩), .slice none 0 0, .int .i64 0, .nilIface] 107)
      simpa using h
    · intro i hi
      match i, hi with
      | 0, _ => rfl
      | 1, _ => rfl
      | 2, _ => rfl
      | 3, _ => rfl
  · refine ⟨#[.nilIface, .slice (some ⟨w.heap.size, 0, none⟩) 4096 4096, .int .i64 0, .iface 22 (.pointer (some ⟨bz, 0, none⟩))], ?_, rfl, ?_⟩
    · rw [Below.heap_alloc _ _ _ (by simp)]
      have h := Go.Deep.blk_alloc_new (w.alloc (.cells cur.toArray 5)) (.cells #[.nilIface, .slice (some ⟨w.heap.size, 0, none⟩) 4096 4096, .int .i64 0, .iface 22 (.pointer (some ⟨bz, 0, none⟩))] 125)
      simpa using h
    · intro i hi
      match i, hi with
      | 0, _ => rfl
      | 1, _ => rfl
      | 2, _ => rfl
      | 3, _ => rfl
  · rw [Below.heap_alloc _ _ _ (by simp; omega), Below.heap_alloc _ _ _ (by simp)]
    exact Go.Deep.blk_alloc_new w _
  · refine World.rowIs.of_block hz ?_
    rw [Below.heap_alloc _ _ _ (by simp; omega), Below.heap_alloc _ _ _ (by simp; omega), Below.heap_alloc _ _ _ hlt]

set_option maxRecDepth 100000 in
theorem zzw_fail (bz : Nat) (sl : Value) (t : TypeId) (x : Value) (w : World) (h1 : w.cell? ⟨bz, 1, none⟩ = some (.iface t x)) :
    Calls Ybad.prog 66 #[.pointer (some ⟨bz, 0, none⟩), sl] w fun e w' => e = .returned (.tuple #[.int .i64 0, .iface t x]) ∧ ∃ q, w' = w.drewN q := by
  go_enter Ybad.func66, Ybad.ntmps66
  go_wp2
  go_quiet (fail)
  go_wp2
  go_ret2
  exact ⟨rfl, _, rfl⟩

attribute [local go_sem ↓] hideSlc
theorem slc_to (b n cap : Nat) (h : n ≤ cap) (w : World) : (slc23 (.slice (some ⟨b, 0, none⟩) cap cap) (some (.int .i64 0)) (some (.int .i64 n)) none).run Ybad.prog w = .ok (.slice (some ⟨b, 0, none⟩) n cap) w := by
  have hs : ∀ w, (sizeOf 5).run Ybad.prog w = .ok 1 w := fun _ => by kernel_rfl
  have h2 : (n : Int) ≤ (cap : Int) := by omega
  unfold slc23 Instr.slice
  by_cases e : cap = 0
  · obtain rfl : n = 0 := by omega
    simp [go_sem, run_underlying Ybad.underlying23, hs, e]
  · simp [go_sem, run_underlying Ybad.underlying23, hs, h2]

theorem meth66 (p : Option Addr) (w : World) : (method 309 22 (.pointer p) "Write").run Ybad.prog w = .ok (66, .pointer p) w := by kernel_rfl

set_option maxRecDepth 100000 in
theorem flush_fail (bw bb bz : Nat) (c : List UInt8) (t : TypeId) (x : Value) (w : World) (h : Bf bw bb bz c w) (hc : 0 < c.length) (hc' : c.length ≤ 4096) (hz : w.rowIs bz 27 2 (zzc (.slice none 0 0) (.iface t x))) :
    Calls Ybad.prog 18 #[.pointer (some ⟨bw, 0, none⟩)] w fun e w' => e = .returned (.iface t x) ∧ ∃ q, w' = ((w.drewN q).setCell ⟨bw, 2, none⟩ (.int .i64 c.length)).setCell ⟨bw, 0, none⟩ (.iface t x) := by
  have c0 := h.c0
  have c1 := h.c1
  have c2 := h.c2
  have c3 := h.c3
  have f0 := h.wr.frozen 0
  have f2 := h.wr.frozen 2
  have z1 : w.cell? ⟨bz, 1, none⟩ = some (.iface t x) := hz.cell (by omega)
  obtain ⟨N, hN⟩ : ∃ N, N = c.length := ⟨_, rfl⟩
  rw [← hN] at c2 hc hc' ⊢
  have hsl := slc_to bb N 4096 hc'
  have hw : IntKind.i64.wrap ((N : Int) - 0) = (N : Int) := by rw [IntKind.wrap_i64]; omega
  clear h hz hN
  have hme := meth66 (some ⟨bz, 0, none⟩)
  go_enter Ybad.func18, Ybad.ntmps18
  go_wp2_with fail
  go_quiet ((go_at_call 66; refine Calls.quiet_of (zzw_fail bz _ t x _ z1)))
  go_wp2_with fail
  go_ret
  exact ⟨rfl, _, rfl⟩

set_option maxRecDepth 100000 in
theorem flush_empty (bw bb bz : Nat) (w : World) (h : Bf bw bb bz [] w) :
    Calls Ybad.prog 18 #[.pointer (some ⟨bw, 0, none⟩)] w fun e w' => e = .returned .nilIface ∧ w' = w := by
  have c0 := h.c0
  have c2 := h.c2
  simp only [List.length_nil] at c2
  go_enter Ybad.func18, Ybad.ntmps18
  go_wp2_with fail
  go_ret
  exact ⟨rfl, rfl⟩

theorem Tr.f3 {lv : Value} {l : List UInt8} {mem : Nat} {c : List UInt8} {w : World} (h : Tr A B bt bw bb bz w0 zz lv l mem c w) : w.frozen? ⟨bt, 3, none⟩ = false := h.ln.tr.frozen 3

set_option maxRecDepth 100000 in
theorem tflush_fail (P : Pl A B bt bw bb bz) {lv : Value} {l : List UInt8} {mem : Nat} {c : List UInt8} {w : World} (t : TypeId) (x : Value) (h : Tr A B bt bw bb bz w0 (zzc (.slice none 0 0) (.iface t x)) lv l mem c w) (hc : 0 < c.length) (hc' : c.length ≤ 4096) :
    Calls Ybad.prog 9 #[.pointer (some ⟨bt, 0, none⟩)] w fun e w' => e = .returned (.iface t x) ∧ Below A w0 w' ∧ w'.rowIs bz 27 2 (zzc (.slice none 0 0) (.iface t x)) := by
  have k0 := h.c0
  have k3 := h.c3
  have f3 := h.f3
  have HH : Hid (Tr A B bt bw bb bz w0 (zzc (.slice none 0 0) (.iface t x)) lv l mem c w) := h
  clear h
  obtain ⟨a1, a2, a3, a4, l1, l2, l3, l4, n1, n2, n3, n4, n5⟩ := P
  go_enter Ybad.func9, Ybad.ntmps9
  go_wp2_with (go_at_call 18; refine (flush_fail bw bb bz c t x _ HH.out.bf hc hc' HH.out.zw).mono ?_)
  rintro e w1 ⟨rfl, q, hw1⟩
  have g3 : w1.cell? ⟨bt, 3, none⟩ = some .nilIface := by
    rw [hw1, World.cell?_setCell_far _ _ _ _ (by simpa using n1.symm), World.cell?_setCell_far _ _ _ _ (by simpa using n1.symm)]; exact k3
  have gf : w1.frozen? ⟨bt, 3, none⟩ = false := by
    rw [World.frozen?_of_block (w := w) (by rw [hw1, Below.heap_setCell _ _ _ _ (by simpa using n1), Below.heap_setCell _ _ _ _ (by simpa using n1)]; rfl)]; exact f3
  have B1 : Hid (Below A w0 (w1.setCell ⟨bt, 3, none⟩ (.iface t x))) := by
    rw [hw1]; exact (((HH.out.drewN q).bel.setCell (p := ⟨bw, 2, none⟩) a2 _).setCell (p := ⟨bw, 0, none⟩) a2 _).setCell (p := ⟨bt, 3, none⟩) a1 _
  have R1 : Hid ((w1.setCell ⟨bt, 3, none⟩ (.iface t x)).rowIs bz 27 2 (zzc (.slice none 0 0) (.iface t x))) := by
    refine World.rowIs.of_block (w := w) HH.out.zw ?_
    rw [hw1, Below.heap_setCell _ _ _ _ (by simpa using n3.symm), Below.heap_setCell _ _ _ _ (by simpa using n4), Below.heap_setCell _ _ _ _ (by simpa using n4)]; rfl
  clear hw1 k0 k3 f3
  go_wp2_with fail
  go_ret
  exact ⟨rfl, B1.out, R1.out⟩

set_option maxRecDepth 100000 in
theorem tflush_empty (P : Pl A B bt bw bb bz) {lv : Value} {l : List UInt8} {mem : Nat} {w : World} (h : Tr A B bt bw bb bz w0 zz lv l mem [] w) :
    Calls Ybad.prog 9 #[.pointer (some ⟨bt, 0, none⟩)] w fun e w' => e = .returned .nilIface ∧ Below A w0 w' ∧ w'.rowIs bz 27 2 zz := by
  have k0 := h.c0
  have k3 := h.c3
  have f3 := h.f3
  have HH : Hid (Tr A B bt bw bb bz w0 zz lv l mem [] w) := h
  clear h
  have a1 := P.a1
  have n3 := P.n3
  have B1 : Hid (Below A w0 (w.setCell ⟨bt, 3, none⟩ .nilIface)) := HH.out.bel.setCell (p := ⟨bt, 3, none⟩) a1 _
  have R1 : Hid ((w.setCell ⟨bt, 3, none⟩ .nilIface).rowIs bz 27 2 zz) := World.rowIs.of_block HH.out.zw (Below.heap_setCell _ _ _ _ (by simpa using n3.symm))
  go_enter Ybad.func9, Ybad.ntmps9
  go_wp2_with (go_at_call 18; refine (flush_empty bw bb bz _ HH.out.bf).mono ?_)
  rintro e w1 ⟨rfl, rfl⟩
  go_wp2_with fail
  go_ret
  exact ⟨rfl, B1.out, R1.out⟩
end Go.Proofs.YbulkbldsDoor
