/-
  The law LawS3099AFail, walked.
-/
import Derived.Test.YbulkbldsDoorFlush
import Derived.LaidEql
namespace Go.Proofs.YbulkbldsDoor
open Go.Shelf Go.RowKit


set_option maxRecDepth 100000 in
theorem pass_nil (v : Int) (w : World) : Calls Ybad.prog 8 #[.pointer none, .int .i64 v] w fun e w' => e = .returned (.tuple #[]) ∧ w' = w := by
  go_enter Ybad.func8, Ybad.ntmps8
  go_wp2_with fail
  first | go_end0 | refine bodyPost_ret (results_none rfl _ _ _) rfl ?_
  exact ⟨rfl, rfl⟩

set_option maxRecDepth 100000 in
theorem errNew (s : ByteArray) (w : World) : Calls Ybad.prog 11 #[.string s] w fun e w' => e = .returned (.iface 111 (.pointer (some ⟨w.heap.size, 0, none⟩))) ∧ w' = w.alloc (.cells #[.string s] 113) := by
  go_enter Ybad.func11, Ybad.ntmps11
  go_wp2_with fail
  go_ret
  exact ⟨rfl, rfl⟩

theorem lineOf_len (v : Int) (h0 : -9223372036854775808 ≤ v) (h1 : v ≤ 9223372036854775807) : 30 ≤ (lineOf v).length ∧ (lineOf v).length ≤ 60 := by
  have := Lib.itoa_length_le v h0 h1
  unfold lineOf
  simp
  omega

theorem eqErr (p : Addr) (w : World) : (binOp .eql 25 (.iface 111 (.pointer (some p))) (.iface 111 (.pointer (some p)))).run Ybad.prog w = .ok (.bool true) w := by
  have h1 : (Ybad.prog.info? 111).map (·.comparable) = some true := by kernel_rfl
  have h2 : (Ybad.prog.info? 113).isSome = true := by kernel_rfl
  obtain ⟨i, hi, hc⟩ := Option.map_eq_some_iff.1 h1
  obtain ⟨j, hj⟩ := Option.isSome_iff_exists.1 h2
  exact run_eql_iface_ptr_same w p Ybad.underlying25 Ybad.underlying111 hi hc hj

set_option maxRecDepth 100000 in
theorem fail_any (n v : Int) (hn0 : 0 ≤ n) (hn : n ≤ 255) (h0 : -9223372036854775808 ≤ v) (h1 : v ≤ 9223372036854775807) (w : World)
    (htab : Lib.TabBelow Ybad.prog w.heap.size w nPow .u64 Lib.pow10Tab) :
    Calls Ybad.prog 5 #[.int .u8 n, .int .i64 v] w fun e w' => e = .returned (.bool true) ∧ Below w.heap.size w w' := by
  obtain ⟨k, ek, hk⟩ : ∃ k : Nat, n % 8 = (k : Int) ∧ k < 8 := ⟨(n % 8).toNat, by omega, by omega⟩
  have HTB := (show Hid _ from htab)
  clear htab
  go_enter Ybad.func5, Ybad.ntmps5
  go_wp2_with (go_at_call 8; refine (pass_nil v _).mono ?_)
  rintro e w1 ⟨rfl, rfl⟩
  go_wp2_with (go_at_call 11; refine (errNew _ _).mono ?_)
  rintro e w2 ⟨rfl, hw2⟩
  rw [ek]
  clear ek
  have s2 : w2.heap.size = w1.heap.size + 1 := by rw [hw2]; simp
  have b2 : Below w1.heap.size w1 w2 := by rw [hw2]; exact (Below.refl _ _).alloc (Nat.le_refl _) _
  obtain ⟨pf, hpf⟩ : ∃ p, p = w1.heap.size := ⟨_, rfl⟩
  rw [← hpf]
  have HP : Hid (pf = w1.heap.size) := hpf
  clear hpf hw2
  have HS2 : Hid (w2.heap.size = w1.heap.size + 1) := s2
  have HB2 : Hid (Below w1.heap.size w1 w2) := b2
  clear s2 b2
  go_wp2_with (go_at_call 7; refine (newTrace_any _ _).mono ?_)
  rintro e w3 ⟨rfl, cur, hlen, hw3⟩
  have sz2 := HS2.out
  have hz : (w2.alloc (.cells #[.slice none 0 0, .iface 111 (.pointer (some ⟨pf, 0, none⟩))] 27)).rowIs w2.heap.size 27 2 (zzc (.slice none 0 0) (.iface 111 (.pointer (some ⟨pf, 0, none⟩)))) := by
    refine ⟨_, Go.Deep.blk_alloc_new _ _, rfl, ?_⟩
    intro i hi
    match i, hi with
    | 0, _ => rfl
    | 1, _ => rfl
  obtain ⟨P, T⟩ := tr_new (A := w1.heap.size) _ w1 cur hlen w2.heap.size _ hz (by simp; omega) (by omega) (HB2.out.alloc (by omega) _)
  rw [← hw3] at T
  clear hw3 hlen hz sz2 HS2 HB2 HP
  generalize (w2.alloc (.cells #[.slice none 0 0, .iface 111 (.pointer (some ⟨pf, 0, none⟩))] 27)).heap.size = M at P T ⊢
  generalize w2.heap.size = bz at P T ⊢
  have HT0 := (show Hid _ from T)
  clear T
  go_wp2_with fail
  go_loopw [10] (fun i wr => ∃ j : Nat, j ≤ k ∧ i = .int .i64 j ∧ ∃ lv l mem c, Tr w1.heap.size (M + 3) (M + 2) (M + 1) M bz w1 (zzc (.slice none 0 0) (.iface 111 (.pointer (some ⟨pf, 0, none⟩)))) lv l mem c wr ∧ c.length ≤ 60 * j ∧ j ≤ c.length) (fun i _ => k - (intOf i).toNat)
  case atStart => exact ⟨0, Nat.zero_le _, rfl, _, _, _, _, HT0.out, by simp, by simp⟩
  case round =>
    obtain ⟨j, hj, rfl, lv, l, mem, c, T, hc1, hc2⟩ := hrel
    have HH := (show Hid _ from T)
    clear T HT0
    by_cases hlt : j < k
    · have hvw : IntKind.i64.wrap (v + 0) = v := by rw [IntKind.wrap_i64]; omega
      go_wp2_with (go_at_call 8; refine (pass_any P v h0 h1 HH.out (by omega) HTB.out).mono ?_)
      rintro e w4 ⟨rfl, lv', l', mem', T'⟩
      have H2 := (show Hid _ from T')
      clear T'
      have hll := lineOf_len v h0 h1
      go_wp2_with fail
      go_roundw
      case rel => exact ⟨j + 1, by omega, by go_num, lv', l', mem', _, H2.out, by simp; omega, by simp; omega⟩
      case measure => simp [intOf]; omega
    · obtain rfl : j = k := by omega
      by_cases hk0 : j = 0
      · subst hk0
        obtain rfl : c = [] := List.length_eq_zero_iff.1 (by omega)
        go_wp2_with (go_at_call 9; refine (tflush_empty P HH.out).mono ?_)
        rintro e w5 ⟨rfl, b5, r5⟩
        have z0 : w5.cell? ⟨bz, 0, none⟩ = some (.slice none 0 0) := r5.cell (by omega)
        have HB := (show Hid _ from b5)
        clear b5 r5
        go_wp2_with fail
        go_ret
        exact ⟨rfl, HB.out⟩
      · go_wp2_with (go_at_call 9; refine (tflush_fail P 111 _ HH.out (by omega) (by omega)).mono ?_)
        rintro e w5 ⟨rfl, b5, r5⟩
        have z0 : w5.cell? ⟨bz, 0, none⟩ = some (.slice none 0 0) := r5.cell (by omega)
        have HB := (show Hid _ from b5)
        clear b5 r5
        have hjn : ((j : Int) == 0) = false := by rw [beq_eq_false_iff_ne]; omega
        have heq := eqErr ⟨pf, 0, none⟩
        go_wp2_with fail
        go_ret
        exact ⟨rfl, HB.out⟩
end Go.Proofs.YbulkbldsDoor
