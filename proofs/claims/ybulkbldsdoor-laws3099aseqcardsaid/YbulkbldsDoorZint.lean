/-
  zzs3099aint, zzs3099aline.
-/
import Derived.Test.YbulkbldsDoorPass
import Derived.Deep.CutBlock
import Derived.Deep.DeepCutAuto
import Derived.Lib.ItoaNum
import Derived.Lib.ItoaMem
import Derived.Lib.ItoaLen
namespace Go.Proofs.YbulkbldsDoor
open Go.Shelf Go.RowKit

/-- What zzs3099aint's array holds when the bytes ds are laid. -/
def dgc (f : Nat → Value) (ds : List UInt8) : Prop := ∀ j (c : UInt8), ds[j]? = some c → f (20 - ds.length + j) = .int .u8 (c.toNat : Int)

theorem dgc_cons {f : Nat → Value} {ds : List UInt8} (h : dgc f ds) (hl : ds.length < 20) (c : UInt8) : dgc (fun i => if i = 20 - ds.length - 1 then .int .u8 (c.toNat : Int) else f i) (c :: ds) := by
  intro j c' hj
  simp only [List.length_cons]
  cases j with
  | zero =>
    simp at hj
    subst hj
    simp only [Nat.add_zero]
    rw [if_pos (by omega)]
  | succ j =>
    simp at hj
    rw [if_neg (by omega), show 20 - (ds.length + 1) + (j + 1) = 20 - ds.length + j by omega]
    exact h j c' hj

theorem dgc_news {w : World} {b N : Nat} {f : Nat → Value} {ds : List UInt8} (R : w.rowIs b 127 20 f) (D : dgc f ds) (hl : ds.length ≤ 20) (hN : N = 20 - ds.length) (j : Nat) (c : UInt8) (hj : ds[j]? = some c) :
    w.cell? ((⟨b, N, none⟩ : Addr).add j) = some (.int .u8 (c.toNat : Int)) := by
  have hjl : j < ds.length := (List.getElem?_eq_some_iff.1 hj).1
  have e : (⟨b, N, none⟩ : Addr).add j = ⟨b, N + j, none⟩ := by unfold Addr.add; split <;> simp_all
  rw [e, R.cell (by omega), hN, D j c hj]

theorem dig_step (u : Nat) (h : ¬ u < 10) : Lib.decDigits u = Lib.decDigits (u / 10) ++ [UInt8.ofNat (48 + u % 10)] := by
  rw [Lib.decDigits, dif_neg h]

/-- A sequence without its first n statements. -/
def tl : Nat → Code → Code
  | 0, c => c
  | n + 1, .seq _ b => tl n b
  | _ + 1, c => c

theorem Owns.below {B : Nat} {v : Value} {l : List UInt8} {w w' : World} (h : Owns B v l w) (hb : Below w.heap.size w w') : Owns B v l w' := by
  obtain ⟨x1, x2 | ⟨g, cap, cur, e1, e2, e3, e4⟩⟩ := h
  · exact ⟨x1, .inl x2⟩
  · have hg : g < w.heap.size := by
      rcases Nat.lt_or_ge g w.heap.size with h | h
      · exact h
      · rw [Array.getElem?_eq_none h] at e3; cases e3
    exact ⟨x1, .inr ⟨g, cap, cur, e1, e2, (hb.block g hg).trans e3, e4⟩⟩

/-- 'append(v, m...)' of bytes that lie in a row, v owned. -/
theorem wp_row {ops : Array Oper} {rest : List Oper} {o : Oper} {a : Act} {Q : Exit → Act → World → Prop} (w : World) (hgd : o.guard = none) (s x : Operand)
    (ho : o.op = Op.call { callee := Callee.builtin Builtin.append, args := #[s, x], argTypes := #[23, 23] }) {B : Nat} {v : Value} {l : List UInt8} (m : List UInt8) (hown : Owns B v l w) (hs : a.eval s = v) (hB : B ≤ w.heap.size)
    (hl : l.length + m.length ≤ 100000000) (ad : Addr) (c k : Nat) (hk : k = m.length) (hx : a.eval x = .slice (some ad) k c) (hnews : ∀ j (b : UInt8), m[j]? = some b → w.cell? (ad.add j) = some (.int .u8 (b.toNat : Int)))
    (h : ∀ a' n' c' w', Owns B (.slice a' n' c') (l ++ m) w' → Below B w w' → wpList Ybad.prog ops Q rest (a.put o.dst (.slice a' n' c')) w') : wpList Ybad.prog ops Q (o :: rest) a w := by
  subst hk
  obtain ⟨i0, hi, hz0, hz1, hz2⟩ := info_parts Ybad.laysAI.i5
  refine wpList_append_own _ hgd s x 23 ho B 5 i0 (.int .u8 0) 1 1 Ybad.underlying23 hi hz0 hz1 hz2 rfl (by decide) v _ _ hs hown ad m.length c (Lib.byteCells m) hx (by simp [Lib.byteCells]) ?_ ?_ (by unfold maxLen; omega) (by omega) hB ?_
  · intro j u' hj
    simp only [Lib.byteCells, List.getElem?_map, Option.map_eq_some_iff] at hj
    obtain ⟨b, hb, rfl⟩ := hj
    exact hnews j b hb
  · intro u' hu'
    simp only [Lib.byteCells, List.mem_map] at hu'
    obtain ⟨b, _, rfl⟩ := hu'
    rfl
  · intro v1 w1 hown1 hgrow _
    have ho : Owns B v1 (l ++ m) w1 := Owns.of hown1 rfl rfl
    obtain ⟨a', c', rfl⟩ := ho.shape
    exact h _ _ _ w1 ho ((Below.refl B w).grown hgrow hB (fun k hk => (World.ownsRow.lt hown k hk).1))

theorem slcA (b N : Nat) (h : N < 20) (w : World) : (Instr.sliceAt 127 (.pointer (some ⟨b, 0, none⟩)) (some (.int .i64 N)) none none).run Ybad.prog w = .ok (.slice (some ⟨b, N, none⟩) (20 - N) (20 - N)) w := by
  have h2 : (N : Int) ≤ 20 := by omega
  have h3 : ¬ 20 = N := by omega
  have hs : ∀ w, (sizeOf 5).run Ybad.prog w = .ok 1 w := fun _ => by kernel_rfl
  unfold Instr.sliceAt
  simp [go_sem, run_underlying Ybad.underlying127, hs, h2, h3]

theorem dig_len (U : Nat) (hU : U < 18446744073709551616) : (Lib.decDigits U).length ≤ 20 := by
  rw [Lib.decDigits_length]; exact Lib.nDigits_le20 U hU
theorem dig_pos (u : Nat) : 1 ≤ (Lib.decDigits u).length := by
  rw [Lib.decDigits]
  split <;> simp

theorem zeros20 (w : World) : (w.alloc (.cells #[.int .u8 0, .int .u8 0, .int .u8 0, .int .u8 0, .int .u8 0, .int .u8 0, .int .u8 0, .int .u8 0, .int .u8 0, .int .u8 0, .int .u8 0, .int .u8 0, .int .u8 0, .int .u8 0, .int .u8 0, .int .u8 0, .int .u8 0, .int .u8 0, .int .u8 0, .int .u8 0] 127)).rowIs w.heap.size 127 20 (fun _ => .int .u8 0) := by
  refine ⟨_, Go.Deep.blk_alloc_new _ _, rfl, ?_⟩
  intro i hi
  match i, hi with
  | 0, _ => rfl
  | 1, _ => rfl
  | 2, _ => rfl
  | 3, _ => rfl
  | 4, _ => rfl
  | 5, _ => rfl
  | 6, _ => rfl
  | 7, _ => rfl
  | 8, _ => rfl
  | 9, _ => rfl
  | 10, _ => rfl
  | 11, _ => rfl
  | 12, _ => rfl
  | 13, _ => rfl
  | 14, _ => rfl
  | 15, _ => rfl
  | 16, _ => rfl
  | 17, _ => rfl
  | 18, _ => rfl
  | 19, _ => rfl
  | n + 20, h => exact absurd h (by omega)

set_option maxRecDepth 100000 in
set_option maxHeartbeats 1000000 in
/-- zzs3099aint's tail: the digits of U into the array, then the append. -/
theorem ztail (B : Nat) (v : Value) (l : List UInt8) (U : Nat) (hU : U < 18446744073709551616) (w W : World) (hown : Owns B v l w) (hB : B ≤ w.heap.size) (hl : l.length ≤ 1000000) (R0 : W.rowIs w.heap.size 127 20 (fun _ => .int .u8 0)) (b0 : Below w.heap.size w W) (L : List UInt8) (hL : L = l ++ Lib.decDigits U) (v0 : World) (hv0 : Below B v0 w) {y1 y2 y3 y4 y7 y8 y9 y10 y11 y12 y13 y14 y15 y16 y17 y18 y19 y20 y21 y22 y23 y24 y25 y26 y27 y28 y29 y30 y31 y32 : Value} :
    Code.wp Ybad.prog (tl 4 (Ybad.f19.body.getD .skip)) (bodyPost Ybad.prog Ybad.f19 fun e w' => ∃ a' n' c', e = .returned (.slice a' n' c') ∧ Owns B (.slice a' n' c') L w' ∧ Below B v0 w') ⟨#[v, y1, y2, y3, y4, .int .u64 (U : Int), .pointer (some ⟨w.heap.size, 0, none⟩), y7, y8, y9, y10, y11, y12, y13, y14, y15, y16, y17, y18, y19, y20, y21, y22, y23, y24, y25, y26, y27, y28, y29, y30, y31, y32], []⟩ W := by
  conv => arg 2; whnf
  have HL0 : Hid (L = l ++ Lib.decDigits U) := hL
  have HV0 : Hid (Below B v0 w) := hv0
  clear hL hv0
  have HO : Hid (Owns B v l w) := hown
  have HU := dig_len U hU
  clear hown
  go_wp2_with fail
  go_loopw [5, 7] (fun u i wr => ∃ (u' : Nat) (ds : List UInt8) (f : Nat → Value), u' < 18446744073709551616 ∧ u = .int .u64 u' ∧ i = .int .i64 ((20 - ds.length : Nat) : Int) ∧ Lib.decDigits U = Lib.decDigits u' ++ ds ∧ wr.rowIs w.heap.size 127 20 f ∧ dgc f ds ∧ Below w.heap.size w wr) (fun u _ _ => (intOf u).toNat)
  case atStart => exact ⟨U, [], _, hU, rfl, rfl, by simp, R0, fun j c h => by simp at h, b0⟩
  case round =>
    obtain ⟨u', ds, f, hu', rfl, rfl, hdd, R, hdg, bel⟩ := hrel
    clear R0 b0
    have hlen : ds.length ≤ 19 := by
      have := congrArg List.length hdd
      have h1 := dig_pos u'
      simp at this
      omega
    obtain ⟨N, hN⟩ : ∃ N, N = 20 - ds.length - 1 := ⟨_, rfl⟩
    have hN1 : 20 - ds.length = N + 1 := by omega
    have hNb : N < 20 := by omega
    rw [hN1]
    have hsub : IntKind.i64.wrap (((N + 1 : Nat) : Int) - 1) = (N : Int) := by rw [IntKind.wrap_i64]; omega
    obtain ⟨r, hr⟩ : ∃ r, r = u' % 10 := ⟨_, rfl⟩
    obtain ⟨q, hq⟩ : ∃ q, q = u' / 10 := ⟨_, rfl⟩
    have hr' : (u' : Int) % 10 = (r : Int) := by omega
    have hq' : (u' : Int) / 10 = (q : Int) := by omega
    have hrb : r < 10 := by omega
    have hqb : q < 18446744073709551616 := by omega
    have hqw : IntKind.u64.wrap (q : Int) = (q : Int) := by rw [IntKind.wrap_u64]; omega
    have hrw : IntKind.u64.wrap (r : Int) = (r : Int) := by rw [IntKind.wrap_u64]; omega
    have haw : IntKind.u64.wrap (48 + (r : Int)) = 48 + (r : Int) := by rw [IntKind.wrap_u64]; omega
    have hbw : IntKind.u8.wrap (48 + (r : Int)) = 48 + (r : Int) := by rw [IntKind.wrap_u8]; omega
    have cc := R.cell hNb
    have cf := R.frozen N
    obtain ⟨ch, hch⟩ : ∃ ch : UInt8, ch = UInt8.ofNat (48 + r) := ⟨_, rfl⟩
    have hchn : (ch.toNat : Int) = 48 + (r : Int) := by rw [hch]; simp; omega
    have R' := (R.set N (.int .u8 (48 + (r : Int)))).congr (g := fun i => if i = 20 - ds.length - 1 then .int .u8 (ch.toNat : Int) else f i) (by
      intro i _
      rw [hchn, ← hN])
    have D' := dgc_cons hdg (by omega) ch
    have B' := bel.setCell (p := ⟨w.heap.size, N, none⟩) (Nat.le_refl _) (.int .u8 (48 + (r : Int)))
    obtain ⟨x0, cc'⟩ : ∃ x, wr.cell? ⟨w.heap.size, N, none⟩ = some x := ⟨_, cc⟩
    have HR := (show Hid _ from And.intro R' (And.intro D' B'))
    have HD := (show Hid _ from hdd)
    have HX := (show Hid _ from And.intro hN (And.intro hr (And.intro hq hch)))
    clear cc R hdg bel R' D' B' hdd hN hN1 hr hq hch hchn
    by_cases hz : q = 0
    · subst hz
      have hsl := slcA w.heap.size N hNb
      obtain ⟨R', D', B'⟩ := HR.out
      obtain ⟨hN, hr, hq, hch⟩ := HX.out
      have s' := B'.size
      have hfin : Lib.decDigits U = ch :: ds := by
        rw [HD.out, Lib.decDigits_one (show u' < 10 by omega), hch, hr, Nat.mod_eq_of_lt (show u' < 10 by omega)]
        rfl
      have hnews := dgc_news R' D' (by simp; omega) (show N = 20 - (ch :: ds).length by simp; omega)
      have hown' := HO.out.below B'
      have HN := (show Hid _ from hnews)
      have HW := (show Hid _ from hown')
      have HB' := (show Hid _ from B')
      have HF := (show Hid _ from hfin)
      have hlen2 : 20 - N = (ch :: ds).length := by simp; omega
      have HL := (show Hid _ from hlen2)
      clear hnews hown' B' hfin R' D' hN hr hq hch hlen2
      go_wp2_with (at_builtin; refine wp_row _ rfl _ _ rfl (ch :: ds) HW.out rfl (by omega) (by simp; omega) ⟨w.heap.size, N, none⟩ (20 - N) (20 - N) HL.out rfl HN.out ?_)
      intro a1 n1 c1 w1 o1 b1
      rw [← HF.out, ← HL0.out] at o1
      have BB := (show Hid _ from (HV0.out.trans (HB'.out.mono hB)).trans b1)
      clear b1
      go_wp2_with fail
      go_ret
      exact ⟨_, _, _, rfl, o1, BB.out⟩
    · have hqn : ((q : Int) == 0) = false := by rw [beq_eq_false_iff_ne]; omega
      go_wp2_with fail
      obtain ⟨R', D', B'⟩ := HR.out
      obtain ⟨hN, hr, hq, hch⟩ := HX.out
      refine ⟨⟨q, ch :: ds, _, hqb, rfl, by simp; omega, ?_, R', D', B'⟩, ?_⟩
      · rw [HD.out, dig_step u' (by omega), hch, hr, hq]
        simp
      · show (q : Int).toNat < (u' : Int).toNat
        omega

set_option maxRecDepth 100000 in
theorem zint_any (B : Nat) (v : Value) (l : List UInt8) (i : Int) (h0 : -9223372036854775808 ≤ i) (h1 : i ≤ 9223372036854775807) (w : World) (hown : Owns B v l w) (hB : B ≤ w.heap.size) (hl : l.length ≤ 100000) :
    Calls Ybad.prog 19 #[v, .int .i64 i] w fun e w' => ∃ a' n' c', e = .returned (.slice a' n' c') ∧ Owns B (.slice a' n' c') (l ++ Lib.itoa i) w' ∧ Below B w w' := by
  by_cases hneg : i < 0
  · obtain ⟨U, rfl⟩ : ∃ u : Nat, i = -(u : Int) := ⟨i.natAbs, by omega⟩
    rw [Lib.itoa_neg U (by omega)]
    have hw : IntKind.u64.wrap (-IntKind.u64.wrap (-(U : Int))) = (U : Int) := by rw [IntKind.wrap_u64, IntKind.wrap_u64]; omega
    go_enter Ybad.func19, Ybad.ntmps19
    go_wp2_with (at_builtin; refine wp_byte w rfl _ _ rfl hown rfl hB (by omega) 45 _ rfl rfl ?_)
    intro a1 n1 c1 w1 o1 b1
    have s1 := b1.size
    have hU : U < 18446744073709551616 := by omega
    have HO := (show Hid _ from o1)
    have HB1 := (show Hid _ from b1)
    clear o1 b1
    go_upto_region 5 with fail
    go_cut [6] from 17 to 18 (fun s6 wx => s6 = .pointer (some ⟨w1.heap.size, 0, none⟩) ∧ wx = w1.alloc (.cells #[.int .u8 0, .int .u8 0, .int .u8 0, .int .u8 0, .int .u8 0, .int .u8 0, .int .u8 0, .int .u8 0, .int .u8 0, .int .u8 0, .int .u8 0, .int .u8 0, .int .u8 0, .int .u8 0, .int .u8 0, .int .u8 0, .int .u8 0, .int .u8 0, .int .u8 0, .int .u8 0] 127))
    case first =>
      go_wp2_with fail
      go_meet
      case rel => exact ⟨rfl, rfl⟩
    case rest =>
      obtain ⟨rfl, rfl⟩ := hcut
      refine ‹∀ (a : Act) (w : World), Code.wp Ybad.prog _ _ a w → _› _ _ ?_
      exact ztail B _ _ U hU w1 _ HO.out (by omega) (by simp; omega) (zeros20 w1) ((Below.refl _ _).alloc (Nat.le_refl _) _) _ (by simp) w HB1.out
  · obtain ⟨U, rfl⟩ : ∃ u : Nat, i = u := ⟨i.toNat, by omega⟩
    rw [Lib.itoa_nonneg]
    have hU : U < 18446744073709551616 := by omega
    have hw : IntKind.u64.wrap (U : Int) = (U : Int) := by rw [IntKind.wrap_u64]; omega
    have HO := (show Hid _ from hown)
    clear hown
    go_enter Ybad.func19, Ybad.ntmps19
    go_upto_region 5 with fail
    go_cut [6] from 17 to 18 (fun s6 wx => s6 = .pointer (some ⟨w.heap.size, 0, none⟩) ∧ wx = w.alloc (.cells #[.int .u8 0, .int .u8 0, .int .u8 0, .int .u8 0, .int .u8 0, .int .u8 0, .int .u8 0, .int .u8 0, .int .u8 0, .int .u8 0, .int .u8 0, .int .u8 0, .int .u8 0, .int .u8 0, .int .u8 0, .int .u8 0, .int .u8 0, .int .u8 0, .int .u8 0, .int .u8 0] 127))
    case first =>
      go_wp2_with fail
      go_meet
      case rel => exact ⟨rfl, rfl⟩
    case rest =>
      obtain ⟨rfl, rfl⟩ := hcut
      refine ‹∀ (a : Act) (w : World), Code.wp Ybad.prog _ _ a w → _› _ _ ?_
      exact ztail B v l U hU w _ HO.out hB (by omega) (zeros20 w) ((Below.refl _ _).alloc (Nat.le_refl _) _) _ rfl w (Below.refl _ _)

set_option maxRecDepth 100000 in
theorem zline_any (B : Nat) (v : Value) (l : List UInt8) (i : Int) (h0 : -9223372036854775808 ≤ i) (h1 : i ≤ 9223372036854775807) (w : World) (hown : Owns B v l w) (hB : B ≤ w.heap.size) (hl : l.length ≤ 90000) :
    Calls Ybad.prog 10 #[v, .int .i64 i] w fun e w' => ∃ a' n' c', e = .returned (.slice a' n' c') ∧ Owns B (.slice a' n' c') (l ++ lineOf i) w' ∧ Below B w w' := by
  have hi := Lib.itoa_length_le i h0 h1
  go_enter Ybad.func10, Ybad.ntmps10
  go_wp2_with (at_builtin; refine wp_str w rfl _ _ rfl [123, 34, 101, 118, 101, 110, 116, 34, 58, 32, 34, 112, 97, 115, 115, 34, 44, 32, 34, 112, 108, 97, 121, 101, 114, 34, 58, 32] hown rfl hB (by simp; omega) rfl ?_)
  intro a1 n1 c1 w1 o1 b1
  have s1 := b1.size
  have O1 := (show Hid _ from o1)
  clear o1
  go_wp2_with (go_at_call 19; refine (zint_any B _ _ i h0 h1 _ O1.out (by omega) (by simp; omega)).mono ?_)
  rintro e w2 ⟨a2, n2, c2, rfl, o2, b2⟩
  have s2 := b2.size
  have O2 := (show Hid _ from o2)
  clear o2
  go_wp2_with (at_builtin; refine wp_str w2 rfl _ _ rfl [125, 10] O2.out rfl (by omega) (by simp; omega) rfl ?_)
  intro a3 n3 c3 w3 o3 b3
  have O3 := (show Hid _ from o3)
  clear o3
  have BB := (show Hid _ from (b1.trans b2).trans b3)
  go_wp2
  go_ret
  refine ⟨a3, n3, c3, rfl, ?_, BB.out⟩
  exact O3.out
end Go.Proofs.YbulkbldsDoor
