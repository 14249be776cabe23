import Derived.Test.YbulkbldeProg
import Derived.Test.YbulkbldeBase
import Derived.Test.YbulkbldeLcg
import Derived.Lib.Mul64
import Derived.Laws.Externs
import Derived.Deep.QuietTactic
import Derived.BigQuiet
import Derived.Deep.LoopGhost
namespace Go.Proofs.Ybulkblde
open Go.RowKit

namespace Pcg
theorem maskN (a : Nat) (ha : a < 18446744073709551616) : bits .and .u64 (a : Int) 4294967295 = ((a % 4294967296 : Nat) : Int) := by
  have h := bits_and_u64_nat a 4294967295 ha (by omega)
  have e : a &&& 4294967295 = a % 4294967296 := Nat.and_two_pow_sub_one_eq_mod a 32
  rw [e] at h
  exact h
theorem divN (a : Nat) : (a : Int) / 4294967296 = ((a / 4294967296 : Nat) : Int) := by omega
theorem mulN (a b : Nat) : (a : Int) * (b : Int) = ((a * b : Nat) : Int) := (Int.natCast_mul a b).symm
theorem addN (a b : Nat) : (a : Int) + (b : Int) = ((a + b : Nat) : Int) := (Int.natCast_add a b).symm
theorem wrapN (a : Nat) (ha : a < 18446744073709551616) : IntKind.u64.wrap (a : Int) = (a : Int) := by rw [IntKind.wrap_u64]; omega
theorem wrapM (a : Nat) : IntKind.u64.wrap (a : Int) = ((a % 18446744073709551616 : Nat) : Int) := by rw [IntKind.wrap_u64]; omega
end Pcg

set_option maxHeartbeats 1000000 in
theorem mul64_any (x y : Nat) (hx : x < 18446744073709551616) (hy : y < 18446744073709551616) (w : World) :
    Calls Yba.prog 70 #[.int .u64 x, .int .u64 y] w fun e w' => e = .returned (.tuple #[.int .u64 ((x * y / 18446744073709551616 : Nat) : Int), .int .u64 ((x * y % 18446744073709551616 : Nat) : Int)]) ∧ w' = w := by
  obtain ⟨bd, bt, bw, hhi⟩ := Lib.mul64_hi x y hx hy
  have ba := Lib.half_mul_le (a := x / 4294967296) (b := y / 4294967296) (by omega) (by omega)
  have bb := Lib.half_mul_le (a := x / 4294967296) (b := y % 4294967296) (by omega) (by omega)
  have bc := Lib.half_mul_le (a := x % 4294967296) (b := y / 4294967296) (by omega) (by omega)
  have ba' : x / 4294967296 * (y / 4294967296) < 18446744073709551616 := by omega
  have bb' : x / 4294967296 * (y % 4294967296) < 18446744073709551616 := by omega
  have bc' : x % 4294967296 * (y / 4294967296) < 18446744073709551616 := by omega
  have bh1 : x / 4294967296 * (y / 4294967296) + (x / 4294967296 * (y % 4294967296) + x % 4294967296 * (y % 4294967296) / 4294967296) / 4294967296 < 18446744073709551616 := by omega
  have bh : x / 4294967296 * (y / 4294967296) + (x / 4294967296 * (y % 4294967296) + x % 4294967296 * (y % 4294967296) / 4294967296) / 4294967296 + ((x / 4294967296 * (y % 4294967296) + x % 4294967296 * (y % 4294967296) / 4294967296) % 4294967296 + x % 4294967296 * (y / 4294967296)) / 4294967296 < 18446744073709551616 := by omega
  go_enter Yba.func70, Yba.ntmps70
  go_wp2
  simp only [Pcg.maskN x hx, Pcg.maskN y hy, Pcg.divN, Pcg.mulN, Pcg.addN, Pcg.wrapN _ bd, Pcg.wrapN _ bb', Pcg.wrapN _ bt, Pcg.maskN _ bt, Pcg.wrapN _ bc', Pcg.wrapN _ bw, Pcg.wrapN _ ba', Pcg.wrapN _ bh1, Pcg.wrapN _ bh, Pcg.wrapM (x * y)]
  rw [hhi]
  go_ret2
  exact ⟨rfl, rfl⟩

theorem add64_int (x y c : Int) (hx : 0 ≤ x) (hy : 0 ≤ y) (h0 : 0 ≤ c) (hc : c ≤ 1) (w : World) :
    (callFunc 71 #[.int .u64 x, .int .u64 y, .int .u64 c]).run Yba.prog w =
      .ok (.value (.tuple #[.int .u64 ((x + y + c) % 18446744073709551616), .int .u64 ((x + y + c) / 18446744073709551616)])) w := by
  rw [run_callFunc_extern Yba.func71 (by kernel_rfl) (by kernel_rfl) (by kernel_rfl) (e := add64Entry) (by kernel_rfl), run_add64 x y c hx hy h0 hc]
  rfl

/-- The same, the answer under names. -/
theorem add64_ex (x y c : Int) (hx : 0 ≤ x) (hy : 0 ≤ y) (h0 : 0 ≤ c) (hc : c ≤ 1) : ∃ l d : Nat, (∀ w, (callFunc 71 #[.int .u64 x, .int .u64 y, .int .u64 c]).run Yba.prog w = .ok (.value (.tuple #[.int .u64 l, .int .u64 d])) w) ∧
    (l : Int) = (x + y + c) % 18446744073709551616 ∧ (d : Int) = (x + y + c) / 18446744073709551616 := by
  refine ⟨((x + y + c) % 18446744073709551616).toNat, ((x + y + c) / 18446744073709551616).toNat, fun w => ?_, by omega, by omega⟩
  rw [add64_int x y c hx hy h0 hc w, show ((((x + y + c) % 18446744073709551616).toNat : Nat) : Int) = (x + y + c) % 18446744073709551616 by omega, show ((((x + y + c) / 18446744073709551616).toNat : Nat) : Int) = (x + y + c) / 18446744073709551616 by omega]

/-- the generator's step, on the two halves -/
def nxt (hi lo : Nat) : Nat := Lcg.stepM 47026247687942121848144207491837523525 117397592171526113268558934119004209487 340282366920938463463374607431768211456 (hi * 18446744073709551616 + lo)

theorem nxt_of (hi lo p q h2 l3 c h4 : Nat) (e1 : p * 18446744073709551616 + q = lo * 4865540595714422341)
    (e2 : h2 = (p + hi * 4865540595714422341 + lo * 2549297995355413924) % 18446744073709551616)
    (e3 : c * 18446744073709551616 + l3 = q + 1442695040888963407) (e3' : l3 < 18446744073709551616)
    (e4 : h4 = (h2 + 6364136223846793005 + c) % 18446744073709551616) : nxt hi lo = h4 * 18446744073709551616 + l3 := by
  unfold nxt Lcg.stepM
  omega

theorem u64_three (p a b : Nat) : IntKind.u64.wrap ((p : Int) + IntKind.u64.wrap (IntKind.u64.wrap ((a : Int) * 4865540595714422341) + IntKind.u64.wrap ((b : Int) * 2549297995355413924))) =
    (((p + a * 4865540595714422341 + b * 2549297995355413924) % 18446744073709551616 : Nat) : Int) := by
  simp only [IntKind.wrap_u64]
  omega

theorem carry_of (q l3 c : Nat) (hq : q < 18446744073709551616) (i1 : (l3 : Int) = ((q : Int) + 1442695040888963407 + 0) % 18446744073709551616) (i2 : (c : Int) = ((q : Int) + 1442695040888963407 + 0) / 18446744073709551616) :
    l3 < 18446744073709551616 ∧ c ≤ 1 ∧ c * 18446744073709551616 + l3 = q + 1442695040888963407 := by omega

theorem carry_of2 (h2 h4 c : Nat) (i1 : (h4 : Int) = ((h2 : Int) + 6364136223846793005 + (c : Int)) % 18446744073709551616) :
    h4 < 18446744073709551616 ∧ h4 = (h2 + 6364136223846793005 + c) % 18446744073709551616 := by omega

set_option maxRecDepth 100000 in
set_option maxHeartbeats 1000000 in
theorem next_any (b hi lo : Nat) (w : World) (h0 : w.cell? ⟨b, 0, none⟩ = some (.int .u64 hi)) (h1 : w.cell? ⟨b, 1, none⟩ = some (.int .u64 lo)) (f0 : w.frozen? ⟨b, 0, none⟩ = false) (f1 : w.frozen? ⟨b, 1, none⟩ = false)
    (hlo : lo < 18446744073709551616) :
    Calls Yba.prog 49 #[.pointer (some ⟨b, 0, none⟩)] w fun e w' => ∃ hi' lo' n : Nat, hi' < 18446744073709551616 ∧ lo' < 18446744073709551616 ∧ nxt hi lo = hi' * 18446744073709551616 + lo' ∧
      e = .returned (.tuple #[.int .u64 hi', .int .u64 lo']) ∧ w' = ((w.drewN n).setCell ⟨b, 1, none⟩ (.int .u64 lo')).setCell ⟨b, 0, none⟩ (.int .u64 hi') := by
  obtain ⟨p, q, hm, hp, hq, e1⟩ : ∃ p q : Nat, (∀ w : World, Calls Yba.prog 70 #[.int .u64 lo, .int .u64 4865540595714422341] w fun e w' => e = .returned (.tuple #[.int .u64 p, .int .u64 q]) ∧ w' = w) ∧ p < 18446744073709551616 ∧ q < 18446744073709551616 ∧ p * 18446744073709551616 + q = lo * 4865540595714422341 :=
    ⟨_, _, fun w => mul64_any lo 4865540595714422341 hlo (by omega) w, by omega, by omega, by omega⟩
  obtain ⟨h2, e2, k2⟩ : ∃ h2 : Nat, h2 = (p + hi * 4865540595714422341 + lo * 2549297995355413924) % 18446744073709551616 ∧ IntKind.u64.wrap ((p : Int) + IntKind.u64.wrap (IntKind.u64.wrap ((hi : Int) * 4865540595714422341) + IntKind.u64.wrap ((lo : Int) * 2549297995355413924))) = h2 :=
    ⟨_, rfl, u64_three p hi lo⟩
  obtain ⟨l3, c, a1, i1, i2⟩ := add64_ex (q : Int) 1442695040888963407 0 (by omega) (by omega) (by omega) (by omega)
  obtain ⟨hl3, hc, e3⟩ := carry_of q l3 c hq i1 i2
  obtain ⟨h4, c', a2, i3, i4⟩ := add64_ex (h2 : Int) 6364136223846793005 (c : Int) (by omega) (by omega) (by omega) (by omega)
  obtain ⟨hh4, e4⟩ := carry_of2 h2 h4 c i3
  have N := nxt_of hi lo p q h2 l3 c h4 e1 e2 e3 hl3 e4
  have NH : Hid (nxt hi lo = h4 * 18446744073709551616 + l3) := N
  clear N e1 e2 e3 e4 i1 i2 i3 i4
  go_enter Yba.func49, Yba.ntmps49
  go_wp2_with fail
  refine (hm _).mono ?_
  rintro e w' ⟨rfl, rfl⟩
  clear hm
  go_wp2_with fail
  go_quiet (fail)
  go_wp2_with fail
  go_ret2
  exact ⟨h4, l3, _, hh4, hl3, NH.out, rfl, rfl⟩
/-- What Uint64 answers at the new state, as the walk writes it. -/
def outI (hi lo : Nat) : Int :=
  IntKind.u64.wrap (bits BinOp.xor IntKind.u64 (IntKind.u64.wrap (bits BinOp.xor IntKind.u64 (hi : Int) ((hi : Int) / 4294967296) * 15750249268501108917))
    (IntKind.u64.wrap (bits BinOp.xor IntKind.u64 (hi : Int) ((hi : Int) / 4294967296) * 15750249268501108917) / 281474976710656) * bits BinOp.or IntKind.u64 (lo : Int) 1)

theorem outI_bounds (hi lo : Nat) : 0 ≤ outI hi lo ∧ outI hi lo < 18446744073709551616 := by
  unfold outI
  generalize bits BinOp.xor IntKind.u64 (IntKind.u64.wrap (bits BinOp.xor IntKind.u64 (hi : Int) ((hi : Int) / 4294967296) * 15750249268501108917))
    (IntKind.u64.wrap (bits BinOp.xor IntKind.u64 (hi : Int) ((hi : Int) / 4294967296) * 15750249268501108917) / 281474976710656) * bits BinOp.or IntKind.u64 (lo : Int) 1 = x
  rw [IntKind.wrap_u64]
  omega

theorem outI_zero (lo : Nat) : outI 0 lo = 0 := by
  unfold outI
  have h0 : bits BinOp.xor IntKind.u64 (0 : Int) 0 = 0 := by decide +kernel
  have hw : IntKind.u64.wrap 0 = 0 := by decide +kernel
  have e : ((0 : Nat) : Int) = 0 := rfl
  rw [e, show (0 : Int) / 4294967296 = 0 from by decide +kernel, h0, Int.zero_mul, hw, show (0 : Int) / 281474976710656 = 0 from by decide +kernel, h0, Int.zero_mul, hw]

theorem out_ret (hi lo : Nat) : Ending.returned (.int .u64 (outI hi lo)) = .returned (.int .u64 ((outI hi lo).toNat : Int)) := by
  have h := (outI_bounds hi lo).1
  rw [Int.toNat_of_nonneg h]

set_option maxRecDepth 100000 in
set_option maxHeartbeats 1000000 in
theorem uint64_any (b hi lo : Nat) (w : World) (h0 : w.cell? ⟨b, 0, none⟩ = some (.int .u64 hi)) (h1 : w.cell? ⟨b, 1, none⟩ = some (.int .u64 lo)) (f0 : w.frozen? ⟨b, 0, none⟩ = false) (f1 : w.frozen? ⟨b, 1, none⟩ = false)
    (hlo : lo < 18446744073709551616) :
    Calls Yba.prog 28 #[.pointer (some ⟨b, 0, none⟩)] w fun e w' => ∃ hi' lo' n x : Nat, hi' < 18446744073709551616 ∧ lo' < 18446744073709551616 ∧ nxt hi lo = hi' * 18446744073709551616 + lo' ∧ x < 18446744073709551616 ∧ (hi' = 0 → x = 0) ∧
      e = .returned (.int .u64 x) ∧ w' = ((w.drewN n).setCell ⟨b, 1, none⟩ (.int .u64 lo')).setCell ⟨b, 0, none⟩ (.int .u64 hi') := by
  go_enter Yba.func28, Yba.ntmps28
  go_wp2_with fail
  refine (next_any b hi lo _ h0 h1 f0 f1 hlo).mono ?_
  rintro e w' ⟨hi', lo', n, hh, hl, N, rfl, rfl⟩
  have NH : Hid (nxt hi lo = hi' * 18446744073709551616 + lo') := N
  clear N h0 h1 f0 f1
  go_wp2_with fail
  go_ret
  refine ⟨hi', lo', n, (outI hi' lo').toNat, hh, hl, NH.out, ?_, ?_, out_ret hi' lo', rfl⟩
  · have := outI_bounds hi' lo'
    generalize outI hi' lo' = y at *
    omega
  · rintro rfl
    rw [outI_zero]
    rfl
/-- Block bp holds a generator's state. -/
def Gen (bp : Nat) (w : World) : Prop := ∃ hi lo : Nat, hi < 18446744073709551616 ∧ lo < 18446744073709551616 ∧ w.heap[bp]? = some (.cells #[.int .u64 hi, .int .u64 lo] 83 (0, 0))

/-- Nothing has turned but the generator's state (and what was drawn). -/
structure Rnd (bp : Nat) (w w' : World) : Prop where
  os : w'.os = w.os
  tape : w'.tape = w.tape
  output : w'.output = w.output
  size : w'.heap.size = w.heap.size
  block : ∀ k, k ≠ bp → w'.heap[k]? = w.heap[k]?
  gen : Gen bp w'

theorem Rnd.refl {bp : Nat} {w : World} (h : Gen bp w) : Rnd bp w w := ⟨rfl, rfl, rfl, rfl, fun _ _ => rfl, h⟩
theorem Rnd.trans {bp : Nat} {a b c : World} (h : Rnd bp a b) (k : Rnd bp b c) : Rnd bp a c :=
  ⟨k.os.trans h.os, k.tape.trans h.tape, k.output.trans h.output, k.size.trans h.size, fun i hi => (k.block i hi).trans (h.block i hi), k.gen⟩
theorem Rnd.drewN {bp : Nat} {a b : World} (h : Rnd bp a b) (n : Nat) : Rnd bp a (b.drewN n) := ⟨h.os, h.tape, h.output, h.size, h.block, h.gen⟩
theorem Rnd.drew {bp : Nat} {a b : World} (h : Rnd bp a b) : Rnd bp a b.drew := ⟨h.os, h.tape, h.output, h.size, h.block, h.gen⟩
theorem Rnd.cell {bp : Nat} {a b : World} (h : Rnd bp a b) {k : Nat} (hk : k ≠ bp) (o : Nat) : b.cell? ⟨k, o, none⟩ = a.cell? ⟨k, o, none⟩ := World.cell?_of_block (w := a) (h.block k hk)
theorem Rnd.frozen {bp : Nat} {a b : World} (h : Rnd bp a b) {k : Nat} (hk : k ≠ bp) (o : Nat) : b.frozen? ⟨k, o, none⟩ = a.frozen? ⟨k, o, none⟩ := World.frozen?_of_block (w := a) (h.block k hk)
theorem Rnd.below {bp B : Nat} {a b : World} (h : Rnd bp a b) (hB : B ≤ bp) : Below B a b := ⟨h.os, h.tape, h.output, by rw [h.size]; exact Nat.le_refl _, fun k hk => h.block k (by omega)⟩

/-- A state from which n steps lead to 0. -/
def Left (s n : Nat) : Prop := Lcg.stepsM 47026247687942121848144207491837523525 117397592171526113268558934119004209487 340282366920938463463374607431768211456 n s = 0

theorem left_ex (hi lo : Nat) : ∃ n, Left (nxt hi lo) n := by
  have h := Lcg.comesM 47026247687942121848144207491837523525 117397592171526113268558934119004209487 11756561921985530462036051872959380881 58698796085763056634279467059502104743 128 (by decide +kernel) (by decide +kernel) (nxt hi lo)
    (by unfold nxt Lcg.stepM; rw [show 2 ^ 128 = 340282366920938463463374607431768211456 by decide +kernel]; exact Nat.mod_lt _ (by decide +kernel))
  rw [show 2 ^ 128 = 340282366920938463463374607431768211456 by decide +kernel] at h
  exact h

theorem left_zero {s : Nat} (h : Left s 0) : s = 0 := h
theorem stepsM_succ (a c m n s : Nat) : Lcg.stepsM a c m (n + 1) s = Lcg.stepsM a c m n (Lcg.stepM a c m s) := rfl
theorem left_succ {hi lo n : Nat} (h : Left (hi * 18446744073709551616 + lo) (n + 1)) : Left (nxt hi lo) n := by
  unfold Left at h
  rw [stepsM_succ] at h
  unfold Left nxt
  exact h

/-- The loop's relation. -/
structure IRel (bp : Nat) (w : World) (k : Nat) (wr : World) : Prop where
  r : Rnd bp w wr
  st : ∃ hi lo : Nat, hi < 18446744073709551616 ∧ lo < 18446744073709551616 ∧ wr.heap[bp]? = some (.cells #[.int .u64 hi, .int .u64 lo] 83 (0, 0)) ∧ Left (nxt hi lo) k

theorem gen_set {bp hi lo hi' lo' n : Nat} {w : World} (h : w.heap[bp]? = some (.cells #[.int .u64 hi, .int .u64 lo] 83 (0, 0))) :
    (((w.drewN n).setCell ⟨bp, 1, none⟩ (.int .u64 lo')).setCell ⟨bp, 0, none⟩ (.int .u64 hi')).heap[bp]? = some (.cells #[.int .u64 hi', .int .u64 lo'] 83 (0, 0)) := by
  simp [World.setCell, Array.getElem?_modify]
  exact ⟨_, h, rfl⟩

theorem rnd_set {bp hi lo hi' lo' n : Nat} {w0 w : World} (r : Rnd bp w0 w) (h : w.heap[bp]? = some (.cells #[.int .u64 hi, .int .u64 lo] 83 (0, 0))) (hh : hi' < 18446744073709551616) (hl : lo' < 18446744073709551616) :
    Rnd bp w0 (((w.drewN n).setCell ⟨bp, 1, none⟩ (.int .u64 lo')).setCell ⟨bp, 0, none⟩ (.int .u64 hi')) := by
  refine r.trans ⟨rfl, rfl, rfl, ?_, ?_, hi', lo', hh, hl, gen_set h⟩
  · simp [World.setCell]
  · intro k hk
    rw [Below.heap_setCell _ _ _ _ hk, Below.heap_setCell _ _ _ _ hk]
    rfl

theorem bound_pos (n : Nat) (h1 : 1 ≤ n) (h2 : n ≤ 1000000) : 1 ≤ IntKind.u64.wrap (18446744073709551615 - 18446744073709551615 % (n : Int)) := by
  have a := Int.emod_nonneg (18446744073709551615 : Int) (b := (n : Int)) (by omega)
  have b := Int.emod_lt_of_pos (18446744073709551615 : Int) (b := (n : Int)) (by omega)
  generalize (18446744073709551615 : Int) % (n : Int) = r at *
  rw [IntKind.wrap_u64]
  omega

theorem ret_mod (x n : Nat) (h1 : 1 ≤ n) (h2 : n ≤ 1000000) : Ending.returned (.int .i64 (wrap64 ((x : Int) % (n : Int)))) = .returned (.int .i64 ((x % n : Nat) : Int)) := by
  have h := Nat.mod_lt x (show 0 < n by omega)
  have e : wrap64 ((x : Int) % (n : Int)) = ((x % n : Nat) : Int) := by
    rw [← Int.natCast_emod]
    generalize x % n = r at *
    simp only [wrap64]
    omega
  rw [e]

set_option maxRecDepth 100000 in
set_option maxHeartbeats 1000000 in
theorem intN_any (bg bp n : Nat) (hn : 1 ≤ n) (hn' : n ≤ 1000000) (w : World) (h0 : w.cell? ⟨bg, 0, none⟩ = some (.pointer (some ⟨bp, 0, none⟩))) (hne : bg ≠ bp) (hg : Gen bp w) :
    Calls Yba.prog 14 #[.pointer (some ⟨bg, 0, none⟩), .int .i64 n] w fun e w' => (∃ r : Nat, r < n ∧ e = .returned (.int .i64 r)) ∧ Rnd bp w w' := by
  obtain ⟨hi, lo, b1, b2, hb⟩ := hg
  obtain ⟨N, hN⟩ := left_ex hi lo
  have R0 : IRel bp w N w := ⟨Rnd.refl ⟨hi, lo, b1, b2, hb⟩, hi, lo, b1, b2, hb, hN⟩
  clear hN
  go_enter Yba.func14, Yba.ntmps14
  go_wp2_with fail
  go_loopg [6] N (fun k x wr => IRel bp w k wr)
  case atStart => exact R0
  case round =>
    obtain ⟨r, hi, lo, b1, b2, hb, hL⟩ := hrel
    have c0 := cell_whole hb 0
    have c1 := cell_whole hb 1
    have z0 := frozen_whole hb 0
    have z1 := frozen_whole hb 1
    have hp : wr.cell? ⟨bg, 0, none⟩ = some (.pointer (some ⟨bp, 0, none⟩)) := (r.cell hne 0).trans h0
    simp at c0 c1
    clear R0
    go_wp2_with fail
    refine (uint64_any bp hi lo _ c0 c1 z0 z1 b2).mono ?_
    rintro e w' ⟨hi', lo', m, x, hh, hl, N', hx, hx0, rfl, rfl⟩
    rw [N'] at hL
    clear N' c0 c1 z0 z1
    have hb1 := bound_pos n hn hn'
    have R' : Rnd bp w (((wr.drewN m).setCell ⟨bp, 1, none⟩ (.int .u64 lo')).setCell ⟨bp, 0, none⟩ (.int .u64 hi')) := rnd_set r hb hh hl
    have G' : (((wr.drewN m).setCell ⟨bp, 1, none⟩ (.int .u64 lo')).setCell ⟨bp, 0, none⟩ (.int .u64 hi')).heap[bp]? = some (.cells #[.int .u64 hi', .int .u64 lo'] 83 (0, 0)) := gen_set hb
    have GH := (show Hid _ from G')
    clear G' hb r
    go_wp2_with fail
    · go_ret
      exact ⟨⟨x % n, Nat.mod_lt _ (by omega), ret_mod x n hn hn'⟩, R'⟩
    · have hx1 : 1 ≤ x := by omega
      cases gk with
      | zero =>
        have := left_zero hL
        have := hx0 (by omega)
        omega
      | succ g =>
        go_roundg g
        case measure => omega
        case rel => exact ⟨R', hi', lo', hh, hl, GH.out, left_succ hL⟩
end Go.Proofs.Ybulkblde
