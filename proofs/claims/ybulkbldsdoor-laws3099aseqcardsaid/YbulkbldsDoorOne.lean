/-
  The law LawS3099AOne, walked.
-/
import Derived.Test.YbulkbldsDoorFlushOk
import Derived.Laws.IdiomStrings
namespace Go.Proofs.YbulkbldsDoor
open Go.Shelf Go.RowKit
variable {A B bt bw bb bz : Nat} {w0 : World} {zz : Nat → Value}

/-- 'string(b)' of owned bytes, hidden from the walk. -/
def cv (x : Value) : Sem Value := convert 23 9 x
theorem hideCv (x : Value) : convert 23 9 x = cv x := rfl

theorem lineOf_len' (v : Int) (h0 : -9223372036854775808 ≤ v) (h1 : v ≤ 9223372036854775807) : 30 ≤ (lineOf v).length ∧ (lineOf v).length ≤ 60 := by
  have := Lib.itoa_length_le v h0 h1
  unfold lineOf
  simp
  omega

set_option maxRecDepth 100000 in
theorem cv_own {a : Option Addr} {n cp : Nat} {l : List UInt8} {w : World} (h : Owns B (.slice a n cp) l w) (hl : 0 < l.length) : (cv (.slice a n cp)).run Ybad.prog w = .ok (.string ⟨l.toArray⟩) w := by
  obtain ⟨a', c', e⟩ := h.shape
  injection e with e1 e2 e3
  obtain ⟨hlen, ⟨h0, h1⟩ | ⟨g, cap, cur, hv, hb, hh, _⟩⟩ := id h
  · omega
  · injection hv with v1 v2 v3
    subst v1; subst e2
    refine run_convert_bytes_back w 23 9 5 ⟨g, 0, none⟩ cp l Ybad.underlying23 Ybad.underlying5 Ybad.underlying9 ?_
    intro j hj
    refine World.ownsRow.cells h rfl j _ ?_
    simp [Lib.byteCells, hj]

set_option maxRecDepth 100000 in
theorem tflush_ok (P : Pl A B bt bw bb bz) {lv : Value} {l : List UInt8} {mem : Nat} {c : List UInt8} {w : World} (h : Tr A B bt bw bb bz w0 (zzc (.slice none 0 0) .nilIface) lv l mem c w) (hc : 0 < c.length) (hc' : c.length ≤ 4096) :
    Calls Ybad.prog 9 #[.pointer (some ⟨bt, 0, none⟩)] w fun e w' => e = .returned .nilIface ∧ Below A w0 w' ∧ ∃ a n c', w'.cell? ⟨bz, 0, none⟩ = some (.slice a n c') ∧ Owns B (.slice a n c') c w' ∧ bz < w'.heap.size ∧ B ≤ w'.heap.size := by
  have k0 := h.c0
  have k3 := h.c3
  have f3 := h.f3
  have HH : Hid (Tr A B bt bw bb bz w0 (zzc (.slice none 0 0) .nilIface) lv l mem c w) := h
  have hBs := h.ln.hB
  have hbzl := h.zw.lt
  clear h
  obtain ⟨a1, a2, a3, a4, l1, l2, l3, l4, n1, n2, n3, n4, n5⟩ := P
  go_enter Ybad.func9, Ybad.ntmps9
  go_wp2_with (go_at_call 18; refine (flush_ok bw bb bz c _ HH.out.bf hc hc' HH.out.zw n4).mono ?_)
  rintro e w1 ⟨rfl, a, n, c', w2, hw1, b2, o1⟩
  have s2 := b2.size
  have blk : ∀ k, k < w.heap.size → k ≠ bz → k ≠ bw → w1.heap[k]? = w.heap[k]? := fun k hk h1 h2 => by
    rw [hw1, Below.heap_setCell _ _ _ _ (by simpa using h2), Below.heap_setCell _ _ _ _ (by simpa using h1)]; exact b2.block k hk
  have g3 : w1.cell? ⟨bt, 3, none⟩ = some .nilIface := by
    rw [World.cell?_of_block (w := w) (blk bt (by omega) n3 n1)]; exact k3
  have gf : w1.frozen? ⟨bt, 3, none⟩ = false := by
    rw [World.frozen?_of_block (w := w) (blk bt (by omega) n3 n1)]; exact f3
  have B1 : Hid (Below A w0 (w1.setCell ⟨bt, 3, none⟩ .nilIface)) := by
    rw [hw1]; exact (((HH.out.bel.trans (b2.mono (by omega))).setCell (p := ⟨bz, 0, none⟩) a4 _).setCell (p := ⟨bw, 2, none⟩) a2 _).setCell (p := ⟨bt, 3, none⟩) a1 _
  have sz1 : w1.heap.size = w2.heap.size := by rw [hw1]; simp
  have zc : w1.cell? ⟨bz, 0, none⟩ = some (.slice a n c') := by
    rw [hw1, World.cell?_setCell_far _ _ _ _ (by simpa using n4.symm)]
    have hr := World.rowIs.of_block HH.out.zw (b2.block bz hbzl)
    exact (hr.set 0 _).cell (by omega)
  have Z1 : Hid ((w1.setCell ⟨bt, 3, none⟩ .nilIface).cell? ⟨bz, 0, none⟩ = some (.slice a n c') ∧ Owns B (.slice a n c') c (w1.setCell ⟨bt, 3, none⟩ .nilIface) ∧ bz < (w1.setCell ⟨bt, 3, none⟩ .nilIface).heap.size ∧ B ≤ (w1.setCell ⟨bt, 3, none⟩ .nilIface).heap.size) := by
    refine ⟨?_, ?_, by simp; omega, by simp; omega⟩
    · rw [World.cell?_setCell_far _ _ _ _ (by simpa using n3)]; exact zc
    · have o2 : w1.ownsRow B 5 1 (.slice a n c') c.length (Lib.byteCells c) := by
        obtain ⟨x1, x2 | ⟨g, cap, cur, e1, e2, e3, e4⟩⟩ := o1
        · exact ⟨x1, .inl x2⟩
        · exact ⟨x1, .inr ⟨g, cap, cur, e1, by omega, e3, e4⟩⟩
      exact ownsRow_setCell_below o2 l1 _
  clear hw1 k0 k3 f3 zc o1 b2 blk sz1
  go_wp2_with fail
  go_ret
  exact ⟨rfl, B1.out, a, n, c', Z1.out⟩

attribute [local go_sem ↓] hideCv

set_option maxRecDepth 100000 in
theorem one_any (v : Int) (h0 : -9223372036854775808 ≤ v) (h1 : v ≤ 9223372036854775807) (w : World)
    (htab : Lib.TabBelow Ybad.prog w.heap.size w nPow .u64 Lib.pow10Tab) :
    Calls Ybad.prog 3 #[.int .i64 v] w fun e w' => e = .returned (.bool true) ∧ Below w.heap.size w w' := by
  have HTB := (show Hid _ from htab)
  clear htab
  go_enter Ybad.func3, Ybad.ntmps3
  go_wp2_with (go_at_call 7; refine (newTrace_any _ _).mono ?_)
  rintro e w3 ⟨rfl, cur, hlen, hw3⟩
  have hz : (w.alloc (.cells #[.slice none 0 0, .nilIface] 27)).rowIs w.heap.size 27 2 (zzc (.slice none 0 0) .nilIface) := by
    refine ⟨_, Go.Deep.blk_alloc_new _ _, rfl, ?_⟩
    intro i hi
    match i, hi with
    | 0, _ => rfl
    | 1, _ => rfl
  obtain ⟨P, T⟩ := tr_new (A := w.heap.size) _ w cur hlen w.heap.size _ hz (by simp) (by omega) ((Below.refl _ _).alloc (Nat.le_refl _) _)
  rw [← hw3] at T
  clear hw3 hlen hz
  generalize (w.alloc (.cells #[.slice none 0 0, .nilIface] 27)).heap.size = M at P T ⊢
  have HT0 := (show Hid _ from T)
  clear T
  go_wp2_with (go_at_call 8; refine (pass_any P v h0 h1 HT0.out (by simp) HTB.out).mono ?_)
  rintro e w4 ⟨rfl, lv', l', mem', T'⟩
  have HT1 := (show Hid _ from T')
  clear T'
  have hll := lineOf_len' v h0 h1
  go_wp2_with (go_at_call 9; refine (tflush_ok P HT1.out (by simp; omega) (by simp; omega)).mono ?_)
  rintro e w5 ⟨rfl, b5, a, n, c', z5, o5, s5, s5'⟩
  simp only [List.nil_append] at o5
  have q5 := cv_own o5 (by omega)
  have HB5 := (show Hid _ from b5)
  have HO5 := (show Hid _ from o5)
  clear b5 o5
  go_wp2_with fail
  have q5' := cv_own (w := w5.drew) HO5.out (by omega)
  go_region_with (go_at_call 10; refine (zline_any w5.heap.size (.slice none 0 0) [] v h0 h1 _ (Owns.nil _ _) ?_ ?_).mono ?_; (· exact Nat.le_refl _); (· simp); (rintro e w6 ⟨a6, n6, c6, rfl, o6, b6⟩; have z6 := (b6.cell (p := ⟨w.heap.size, 0, none⟩) s5).trans z5; have HO6' := Owns.below (w := w5.drew) HO5.out b6; have q6 := cv_own HO6' (by omega); clear HO6'; simp only [List.nil_append] at o6; have q7 := cv_own o6 (by omega); have HB6 := (show Hid _ from b6); clear b6 o6))
  all_goals
    have BB : Hid (Below w.heap.size w w6) := HB5.out.trans ⟨HB6.out.os, HB6.out.tape, HB6.out.output, HB6.out.size, fun k hk => HB6.out.block k (by omega)⟩
    clear q5 q5' q6 q7 z5 z6
    go_wp2_with fail
    go_ret
    exact ⟨rfl, BB.out⟩
end Go.Proofs.YbulkbldsDoor
