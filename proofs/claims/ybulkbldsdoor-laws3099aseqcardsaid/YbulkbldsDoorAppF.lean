/-
  strconv.AppendInt with the strong frame.
-/
import Derived.Test.YbulkbldsDoorFr
import Derived.Lib.ItoaWalk
import Derived.BigGuard
import Derived.CellFam
import Derived.OwnWalk
import Derived.Lib.Hide
namespace Go.Proofs.YbulkbldsDoor
open Go.Shelf Go.RowKit Go.Sort

set_option maxRecDepth 100000 in
set_option maxHeartbeats 4000000 in
theorem appendUintF_small (B u : Nat) (hu : u < 100) (v : Value) (l : List UInt8) (w : World) (hown : Owns B v l w) (hB : B ≤ w.heap.size) (hl : l.length ≤ 1000000) :
    Calls Ybad.prog 38 #[v, .int .u64 u, .int .i64 10] w fun e w' => ∃ a' n' c', e = .returned (.slice a' n' c') ∧ Owns B (.slice a' n' c') (l ++ Lib.decDigits u) w' ∧ Fr v w (.slice a' n' c') w' := by
  have hlen : (Lib.decDigits u).length ≤ 20 := dig_len u (by omega)
  go_enter Ybad.func38, Ybad.ntmps38
  go_wp2_with (first
    | (go_at_call 40; refine (Any.internal_strconv_small { Ybad.laysAI with } u hu _).mono ?_; rintro e w' ⟨rfl, rfl⟩)
    | (at_builtin; refine wp_strF _ rfl _ _ rfl (Lib.decDigits u) hown rfl hB (by omega) rfl ?_))
  intro a1 n1 c1 w1 o1 f1
  have O := (show Hid _ from o1)
  have F := (show Hid _ from f1)
  clear o1 f1
  go_wp2
  go_ret
  exact ⟨a1, n1, c1, rfl, O.out, F.out⟩

set_option maxRecDepth 100000 in
set_option maxHeartbeats 4000000 in
theorem appendUintF_big (B u : Nat) (hu : 100 ≤ u) (hu64 : u < 18446744073709551616) (v : Value) (l : List UInt8) (w : World) (hown : Owns B v l w) (hB : B ≤ w.heap.size) (hl : l.length ≤ 1000000)
    (htab : Lib.TabIs Ybad.prog w nPow .u64 Lib.pow10Tab) :
    Calls Ybad.prog 38 #[v, .int .u64 u, .int .i64 10] w fun e w' => ∃ a' n' c', e = .returned (.slice a' n' c') ∧ Owns B (.slice a' n' c') (l ++ Lib.decDigits u) w' ∧ Fr v w (.slice a' n' c') w' := by
  have hlen : (Lib.decDigits u).length ≤ 20 := dig_len u hu64
  have hnd : (Lib.decDigits u).length = Lib.nDigits u := Lib.decDigits_length u
  have hu1 : 1 ≤ u := by omega
  have hsl : ∀ W, (Instr.sliceAt 137 (.pointer (some ⟨w.heap.size, 0, none⟩)) none (some (.int .i64 (Lib.nDigits u : Int))) none).run Ybad.prog W = .ok (.slice (some ⟨w.heap.size, 0, none⟩) (Lib.nDigits u) 24) W := fun W => by
    have h2 : (Lib.nDigits u : Int) ≤ 24 := by omega
    have hs : ∀ w, (sizeOf 5).run Ybad.prog w = .ok 1 w := fun _ => by kernel_rfl
    unfold Instr.sliceAt
    simp [go_sem, run_underlying Ybad.underlying137, hs, h2]
  have hH0 := Lib.holds_zero0 w 137 (Lib.nDigits u) (by omega)
  have hfmt := Any.internal_strconv_formatBase10 { Ybad.laysAI with } w.heap.size 0 24 u (Array.replicate (Lib.nDigits u) 0) (w.alloc (.cells Lib.zeros24 137)) hH0 (by rw [Array.size_replicate]; exact Lib.lt_pow_nDigits u) hu64 (by rw [Array.size_replicate]; omega)
  rw [Array.size_replicate] at hfmt
  have HH0 := Lib.hid hH0
  have iu : (100 : Int) ≤ (u : Int) := by omega
  clear hH0
  go_enter Ybad.func38, Ybad.ntmps38
  go_wp2_with (first
    | (go_at_call 41; refine (Any.internal_strconv_numDigits { Ybad.laysAI with } u hu1 hu64 _ (Lib.tabIs_alloc htab _)).mono ?_; rintro e w' ⟨rfl, rfl⟩))
  go_at_call 42
  refine hfmt.mono ?_
  rintro e w' ⟨rfl, k, v', dk, rfl, hF⟩
  have hcells : ∀ j (b : UInt8), (Lib.decDigits u)[j]? = some b → ((putRow (fun (b : UInt8) => Value.int .u8 (b.toNat : Int)) (w.alloc (.cells Lib.zeros24 137)) w.heap.size 0 dk).drewN k).cell? ((⟨w.heap.size, 0, none⟩ : Addr).add j) = some (.int .u8 (b.toNat : Int)) := by
    intro j b hj
    have hjl : j < (Lib.decDigits u).length := (List.getElem?_eq_some_iff.1 hj).1
    have e5 : (Lib.decDigits u)[j] = b := (List.getElem?_eq_some_iff.1 hj).2
    rw [← e5, Lib.row_is_numeral hF j hjl, Lib.add_plain, World.cell?_drewN]
    exact cell?_putRow (fun (b : UInt8) => Value.int .u8 (b.toNat : Int)) _ w.heap.size 0 _ dk HH0.out (by rw [hF.size, Array.size_replicate]) j (by rw [hF.size]; rw [Lib.decDigits_length] at hjl; exact hjl)
  obtain ⟨os, eo⟩ := Lib.fin_at w (.cells Lib.zeros24 137) dk k 0
  have hown2 : Owns B v l ((putRow (fun (b : UInt8) => Value.int .u8 (b.toNat : Int)) (w.alloc (.cells Lib.zeros24 137)) w.heap.size 0 dk).drewN k) := by rw [eo]; exact Lib.ownsRow_grow hown k os
  have hb2 : Below w.heap.size w ((putRow (fun (b : UInt8) => Value.int .u8 (b.toNat : Int)) (w.alloc (.cells Lib.zeros24 137)) w.heap.size 0 dk).drewN k) := by rw [eo]; exact Lib.below_grow w.heap.size w (Nat.le_refl _) k os
  generalize (putRow (fun (b : UInt8) => Value.int .u8 (b.toNat : Int)) (w.alloc (.cells Lib.zeros24 137)) w.heap.size 0 dk).drewN k = W2 at hcells hown2 hb2 ⊢
  have F1 : Hid (Fr v w v W2) := ⟨hb2.os, hb2.tape, hb2.output, hb2.size, fun k hk _ => hb2.block k hk, Or.inl rfl⟩
  have s2 := hb2.size
  have HC := (show Hid _ from hcells)
  have HO := (show Hid _ from hown2)
  clear eo HH0 hfmt hcells hown2 hb2 hF
  go_wp2_with (at_builtin; refine wp_rowF W2 rfl _ _ rfl (Lib.decDigits u) HO.out rfl (by omega) (by omega) ⟨w.heap.size, 0, none⟩ 24 (Lib.nDigits u) hnd.symm rfl HC.out ?_)
  intro a1 n1 c1 w1 o1 f1
  have O := (show Hid _ from o1)
  have F := (show Hid _ from f1)
  clear o1 f1
  go_wp2
  go_ret
  exact ⟨a1, n1, c1, rfl, O.out, F1.out.trans F.out⟩

theorem appendUintF (B u : Nat) (hu64 : u < 18446744073709551616) (v : Value) (l : List UInt8) (w : World) (hown : Owns B v l w) (hB : B ≤ w.heap.size) (hl : l.length ≤ 1000000)
    (htab : Lib.TabIs Ybad.prog w nPow .u64 Lib.pow10Tab) :
    Calls Ybad.prog 38 #[v, .int .u64 u, .int .i64 10] w fun e w' => ∃ a' n' c', e = .returned (.slice a' n' c') ∧ Owns B (.slice a' n' c') (l ++ Lib.decDigits u) w' ∧ Fr v w (.slice a' n' c') w' := by
  by_cases hu : u < 100
  · exact appendUintF_small B u hu v l w hown hB hl
  · exact appendUintF_big B u (by omega) hu64 v l w hown hB hl htab

set_option maxRecDepth 100000 in
theorem appendIntF (B : Nat) (i : Int) (h0 : -9223372036854775808 ≤ i) (h1 : i ≤ 9223372036854775807) (v : Value) (l : List UInt8) (w : World) (hown : Owns B v l w) (hB : B ≤ w.heap.size) (hl : l.length ≤ 100000)
    (htab : Lib.TabBelow Ybad.prog B w nPow .u64 Lib.pow10Tab) :
    Calls Ybad.prog 34 #[v, .int .i64 i, .int .i64 10] w fun e w' => ∃ a' n' c', e = .returned (.slice a' n' c') ∧ Owns B (.slice a' n' c') (l ++ Lib.itoa i) w' ∧ Fr v w (.slice a' n' c') w' := by
  have HT := (show Hid _ from htab)
  clear htab
  by_cases hneg : i < 0
  · obtain ⟨U, rfl⟩ : ∃ u : Nat, i = -(u : Int) := ⟨i.natAbs, by omega⟩
    rw [Lib.itoa_neg U (by omega)]
    have hw : IntKind.u64.wrap (-IntKind.u64.wrap (-(U : Int))) = (U : Int) := by rw [IntKind.wrap_u64, IntKind.wrap_u64]; omega
    go_enter Ybad.func34, Ybad.ntmps34
    go_wp2_with (at_builtin; refine wp_byteF w rfl _ _ rfl hown rfl hB (by omega) 45 _ rfl rfl ?_)
    intro a1 n1 c1 w1 o1 f1
    have s1 := f1.size
    have O := (show Hid _ from o1)
    have F := (show Hid _ from f1)
    have T1 := HT.out w1 (f1.below hown hB)
    have HT1 := (show Hid _ from T1)
    clear o1 f1 T1
    go_wp2_with (go_at_call 38; refine (appendUintF B U (by omega) _ _ _ O.out (by omega) (by simp; omega) HT1.out).mono ?_)
    rintro e w2 ⟨a2, n2, c2, rfl, o2, f2⟩
    have O2 := (show Hid _ from o2)
    have F2 := (show Hid _ from f2)
    clear o2 f2
    go_wp2
    go_ret
    refine ⟨a2, n2, c2, rfl, ?_, F.out.trans F2.out⟩
    have h := O2.out
    rw [List.append_assoc] at h
    exact h
  · obtain ⟨U, rfl⟩ : ∃ u : Nat, i = u := ⟨i.toNat, by omega⟩
    rw [Lib.itoa_nonneg]
    go_enter Ybad.func34, Ybad.ntmps34
    go_wp2_with (go_at_call 38; refine (appendUintF B U (by omega) _ _ _ hown hB (by omega) (HT.out _ (RowKit.Below.refl _ _))).mono ?_; rintro e w2 ⟨a2, n2, c2, rfl, o2, f2⟩)
    have O2 := (show Hid _ from o2)
    have F2 := (show Hid _ from f2)
    clear o2 f2
    go_wp2
    first | go_ret | go_ret2
    exact ⟨a2, n2, c2, rfl, O2.out, F2.out⟩

set_option maxRecDepth 100000 in
theorem appendIntP (B : Nat) (i : Int) (h0 : -9223372036854775808 ≤ i) (h1 : i ≤ 9223372036854775807) (v : Value) (l : List UInt8) (w : World) (hown : Owns B v l w) (hB : B ≤ w.heap.size) (hl : l.length ≤ 100000)
    (htab : Lib.TabBelow Ybad.prog B w nPow .u64 Lib.pow10Tab) :
    Calls Ybad.prog 28 #[v, .int .i64 i, .int .i64 10] w fun e w' => ∃ a' n' c', e = .returned (.slice a' n' c') ∧ Owns B (.slice a' n' c') (l ++ Lib.itoa i) w' ∧ Fr v w (.slice a' n' c') w' := by
  have HT := (show Hid _ from htab)
  clear htab
  go_enter Ybad.func28, Ybad.ntmps28
  go_wp2_with (go_at_call 34; refine (appendIntF B i h0 h1 _ _ _ hown hB hl HT.out).mono ?_)
  rintro e w2 ⟨a2, n2, c2, rfl, o2, f2⟩
  have O2 := (show Hid _ from o2)
  have F2 := (show Hid _ from f2)
  clear o2 f2
  go_wp2
  go_ret
  exact ⟨a2, n2, c2, rfl, O2.out, F2.out⟩
end Go.Proofs.YbulkbldsDoor
