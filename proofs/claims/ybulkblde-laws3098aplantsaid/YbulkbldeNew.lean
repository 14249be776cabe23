/-
  'newGeneration': the steps drawn, the order drawn.
-/
import Derived.Test.YbulkbldeClone
import Derived.Test.YbulkbldeSteps
import Derived.Deep.DeepCutAuto
namespace Go.Proofs.Ybulkblde
open Go.RowKit
attribute [local go_sem ↓] Go.wp_at_zero Go.wp_at_succ

set_option maxHeartbeats 400000 in
theorem newPCG_any (a b : Int) (w : World) :
    Calls Yba.prog 13 #[.int .u64 a, .int .u64 b] w fun e w' => e = .returned (.pointer (some ⟨w.heap.size, 0, none⟩)) ∧ w' = w.alloc (.cells #[.int .u64 a, .int .u64 b] 83) := by
  go_enter Yba.func13, Yba.ntmps13
  go_wp2
  go_ret
  exact ⟨rfl, rfl⟩

theorem gen_lt' {bp : Nat} {w : World} (h : Gen bp w) : bp < w.heap.size := by
  obtain ⟨a, b, _, _, hb⟩ := h
  exact (Array.getElem?_eq_some_iff.1 hb).1

theorem txn_wrap (d k : Nat) (hd : d ≤ 1000000) : wrap64 (wrap64 ((d : Int) / (k : Int)) + 1) = ((d / k + 1 : Nat) : Int) := by
  have hb : d / k ≤ d := Nat.div_le_self _ _
  rw [← Int.natCast_ediv]
  generalize d / k = q at *
  simp only [wrap64]
  omega

/-- The generation in the making: its blocks lie behind w's. -/
structure Ng (w : World) (n k m tot : Nat) (pm : Value) (sz : Nat) (wx : World) : Prop where
  bel : Below w.heap.size w wx
  size : wx.heap.size = w.heap.size + sz
  g : wx.heap[w.heap.size + 2]? = some (.cells #[.pointer (some ⟨w.heap.size + 1, 0, none⟩), .int .i64 n, .int .i64 k, .int .i64 m, .slice (some ⟨w.heap.size + 3, 0, none⟩) tot tot, pm] 36 (0, 0))
  gen : Gen (w.heap.size + 1) wx

/-- The steps drawn so far. -/
structure Drawn (b k m tot d : Nat) (wx : World) : Prop where
  st : ∃ f s, wx.rowIs b 32 (tot * 3) f ∧ (∀ i, i < d * 3 → f i = stc s i) ∧ ∀ id, id < d → ((s id).act = 1 ∨ (s id).act = 2) ∧ (s id).txn = id / k + 1 ∧ (s id).it < m

theorem Ng.rnd {w : World} {n k m tot sz : Nat} {pm : Value} {wx wy : World} (h : Ng w n k m tot pm sz wx) (R : Rnd (w.heap.size + 1) wx wy) : Ng w n k m tot pm sz wy :=
  ⟨h.bel.trans (R.below (by omega)), by rw [R.size]; exact h.size, by rw [R.block _ (by omega)]; exact h.g, R.gen⟩
theorem Ng.drew {w : World} {n k m tot sz : Nat} {pm : Value} {wx : World} (h : Ng w n k m tot pm sz wx) : Ng w n k m tot pm sz wx.drew := ⟨h.bel.drew, h.size, h.g, h.gen⟩
theorem Ng.set {w : World} {n k m tot sz : Nat} {pm : Value} {wx : World} (h : Ng w n k m tot pm sz wx) (b o : Nat) (v : Value) (hb : w.heap.size + 3 ≤ b) : Ng w n k m tot pm sz (wx.setCell ⟨b, o, none⟩ v) := by
  refine ⟨h.bel.setCell (by simp; omega) v, by simpa [World.setCell] using h.size, by rw [Below.heap_setCell _ _ _ _ (by simp; omega)]; exact h.g, ?_⟩
  obtain ⟨x, y, h1, h2, h3⟩ := h.gen
  exact ⟨x, y, h1, h2, by rw [Below.heap_setCell _ _ _ _ (by simp; omega)]; exact h3⟩
/-- 'g.perm = make([]int, n)'. -/
theorem Ng.perm {w : World} {n k m tot : Nat} {wx : World} (h : Ng w n k m tot (.slice none 0 0) 4 wx) :
    Ng w n k m tot (.slice (some ⟨w.heap.size + 4, 0, none⟩) n n) 5 ((wx.setCell ⟨w.heap.size + 2, 5, none⟩ (.slice (some ⟨w.heap.size + 4, 0, none⟩) n n)).alloc (.cells (madeCells #[.int .i64 0] n) 3)) := by
  have hs := h.size
  have hs2 : (wx.setCell ⟨w.heap.size + 2, 5, none⟩ (.slice (some ⟨w.heap.size + 4, 0, none⟩) n n)).heap.size = w.heap.size + 4 := by simpa [World.setCell] using hs
  refine ⟨(h.bel.setCell (by simp) _).alloc (by omega) _, by simp [World.setCell]; omega, ?_, ?_⟩
  · rw [Below.heap_alloc _ _ _ (by omega)]
    simp [World.setCell, Array.getElem?_modify, h.g]
  · have hl := gen_lt' h.gen
    obtain ⟨x, y, h1, h2, h3⟩ := h.gen
    exact ⟨x, y, h1, h2, by rw [Below.heap_alloc _ _ _ (by omega), Below.heap_setCell _ _ _ _ (by simp)]; exact h3⟩
theorem Ng.perm_block {w : World} {n k m tot : Nat} {wx : World} {pm : Value} (h : Ng w n k m tot (.slice none 0 0) 4 wx) :
    ((wx.setCell ⟨w.heap.size + 2, 5, none⟩ pm).alloc (.cells (madeCells #[.int .i64 0] n) 3)).heap[w.heap.size + 3]? = wx.heap[w.heap.size + 3]? := by
  have hs2 : (wx.setCell ⟨w.heap.size + 2, 5, none⟩ pm).heap.size = w.heap.size + 4 := by simpa [World.setCell] using h.size
  rw [Below.heap_alloc _ _ _ (by omega), Below.heap_setCell _ _ _ _ (by simp)]
theorem Ng.perm_row {w : World} {n k m tot : Nat} {wx : World} {pm : Value} (h : Ng w n k m tot (.slice none 0 0) 4 wx) :
    ((wx.setCell ⟨w.heap.size + 2, 5, none⟩ pm).alloc (.cells (madeCells #[.int .i64 0] n) 3)).rowIs (w.heap.size + 4) 3 n (fun _ => .int .i64 0) := by
  have hs2 : (wx.setCell ⟨w.heap.size + 2, 5, none⟩ pm).heap.size = w.heap.size + 4 := by simpa [World.setCell] using h.size
  have := World.rowIs_made (wx.setCell ⟨w.heap.size + 2, 5, none⟩ pm) (.int .i64 0) n 3
  rw [hs2] at this
  exact this
theorem Drawn.of_block {b k m tot d : Nat} {wx wy : World} (h : Drawn b k m tot d wx) (e : wy.heap[b]? = wx.heap[b]?) : Drawn b k m tot d wy := by
  obtain ⟨f, s, h1, h2, h3⟩ := h.st
  exact ⟨f, s, h1.of_block e, h2, h3⟩
theorem Drawn.put {b k m tot d : Nat} {wx : World} (h : Drawn b k m tot d wx) (a x : Nat) (z : Int) (ha : a = 1 ∨ a = 2) (hx : x < m) (hz : z = ((d / k + 1 : Nat) : Int)) :
    Drawn b k m tot (d + 1) (((wx.setCell ⟨b, d * 3, none⟩ (.int .u8 a)).setCell ⟨b, d * 3 + 1, none⟩ (.int .i64 z)).setCell ⟨b, d * 3 + 2, none⟩ (.string (itm x))) := by
  subst hz
  obtain ⟨f, s, h1, h2, h3⟩ := h.st
  refine ⟨_, upd s d ⟨a, d / k + 1, x⟩, ((h1.set _ _).set _ _).set _ _, ?_, ?_⟩
  · intro i hi
    by_cases e2 : i = d * 3 + 2
    · subst e2; rw [if_pos rfl, stc2]; simp [upd]
    · rw [if_neg e2]
      by_cases e1 : i = d * 3 + 1
      · subst e1; rw [if_pos rfl, stc1]; simp [upd]
      · rw [if_neg e1]
        by_cases e0 : i = d * 3
        · subst e0; rw [if_pos rfl, stc0]; simp [upd]
        · rw [if_neg e0, h2 i (by omega)]
          unfold stc upd
          rw [if_neg (show ¬ i / 3 = d by omega)]
  · intro id hid
    unfold upd
    by_cases e : id = d
    · subst e; rw [if_pos rfl]; exact ⟨ha, rfl, hx⟩
    · rw [if_neg e]; exact h3 id (by omega)

/-- What 'newGeneration' hands back. -/
structure NewGen (w : World) (n k m tot : Nat) (p : Nat → Nat) (s : Nat → St) (w' : World) : Prop where
  bel : Below w.heap.size w w'
  size : w'.heap.size = w.heap.size + 5
  gs : Gs w' (w.heap.size + 2) (w.heap.size + 1) (w.heap.size + 3) (w.heap.size + 4) n k m tot
  gen : Gen (w.heap.size + 1) w'
  prm : Prm n p
  row : w'.rowIs (w.heap.size + 4) 3 n (fun j => .int .i64 ((p j : Nat) : Int))
  st : w'.rowIs (w.heap.size + 3) 32 (tot * 3) (stc s)
  ok : ∀ id, id < tot → ((s id).act = 1 ∨ (s id).act = 2) ∧ (s id).txn = id / k + 1 ∧ (s id).it < m

theorem newGen_of {w : World} {n k m tot : Nat} {p : Nat → Nat} {wx : World} (N : Ng w n k m tot (.slice (some ⟨w.heap.size + 4, 0, none⟩) n n) 5 wx) (D : Drawn (w.heap.size + 3) k m tot tot wx) (hp : Prm n p)
    (P : wx.rowIs (w.heap.size + 4) 3 n (fun j => .int .i64 ((p j : Nat) : Int))) : ∃ s, NewGen w n k m tot p s wx := by
  obtain ⟨f, s, h1, h2, h3⟩ := D.st
  have hc := cell_whole N.g
  exact ⟨s, N.bel, N.size, ⟨by rw [hc]; rfl, by rw [hc]; rfl, by rw [hc]; rfl, by rw [hc]; rfl, by rw [hc]; rfl, by rw [hc]; rfl⟩, N.gen, hp, P, h1.congr h2, h3⟩

set_option maxRecDepth 100000 in
set_option maxHeartbeats 20000000 in
theorem newGen_any (n k m seed : Nat) (hn : 2 ≤ n) (hn' : n ≤ 16) (hk : 2 ≤ k) (hk' : k ≤ 16) (hm : 1 ≤ m) (hm' : m ≤ 26) (hs : seed < 18446744073709551616) (w : World) :
    Calls Yba.prog 6 #[.agg #[.int .i64 n, .int .i64 k, .int .i64 m, .int .u8 0, .int .u64 seed]] w fun e w' => e = .returned (.pointer (some ⟨w.heap.size + 2, 0, none⟩)) ∧ ∃ p s, NewGen w n k m (n * k) p s w' := by
  obtain ⟨tot, htot⟩ : ∃ tot, tot = n * k := ⟨_, rfl⟩
  have htb : tot ≤ 256 := by rw [htot]; exact Nat.mul_le_mul hn' hk'
  have hmul : IntKind.i64.wrap ((n : Int) * (k : Int)) = (tot : Int) := by rw [← Int.natCast_mul, ← htot, IntKind.wrap_i64]; omega
  have HT : Hid (tot = n * k) := htot
  clear htot
  obtain ⟨i0, hi, hz0, hz1, hz2⟩ := info_parts Yba.info32
  have hmk : ∀ w, (Instr.makeSlice 28 (.int .i64 (tot : Int)) (.int .i64 (tot : Int))).run Yba.prog w = .ok (.slice (some ⟨w.heap.size, 0, none⟩) tot tot) (w.alloc (.cells (madeCells #[.int .u8 0, .int .i64 0, .string ByteArray.empty] (tot * 3)) 32)) := by
    intro w
    have h := run_make (P := Yba.prog) w 28 32 i0 _ Yba.underlying28 hi hz0 .i64 .i64 (tot : Int) (tot : Int) (by omega) (by omega) (by rw [hz2]; omega) (by omega)
    rw [hz1] at h
    exact h
  clear hi hz0 hz1 hz2
  go_enter Yba.func6, Yba.ntmps6
  go_wp2_with fail
  go_region_held3 (fun w' => w'.cell? ⟨w.heap.size, 0, none⟩ = some (.int .i64 n) ∧ w'.cell? ⟨w.heap.size, 1, none⟩ = some (.int .i64 k) ∧ w'.cell? ⟨w.heap.size, 2, none⟩ = some (.int .i64 m) ∧ w'.cell? ⟨w.heap.size, 4, none⟩ = some (.int .u64 seed)) (go_keep)
    (first | (go_at_call 13; refine (newPCG_any _ _ _).mono ?_; (rintro e w' ⟨rfl, rfl⟩)))
  go_wp2_with fail
  go_cut [] (fun wx => Ng w n k m tot (.slice none 0 0) 4 wx ∧ Drawn (w.heap.size + 3) k m tot 0 wx)
  case first =>
    go_region
    go_wp2_with fail
    go_meet
    case rel =>
      refine ⟨⟨((((((Below.refl _ _).alloc (Nat.le_refl _) _).alloc (by simp) _).alloc (by simp; omega) _).alloc (by simp; omega) _).drew).drew, by simp, (heap4' w.heap _ _ _ _).2.2.1, seed, 103842131479013, hs, by omega, (heap4' w.heap _ _ _ _).2.1⟩, ⟨fun i => ((madeCells #[.int .u8 0, .int .i64 0, .string ByteArray.empty] (tot * 3))[i]?).getD (.bool false), fun _ => ⟨0, 0, 0⟩, ⟨_, (heap4' w.heap _ _ _ _).2.2.2, size_madeCells _ _, fun i hi => ?_⟩, fun i hi => absurd hi (by omega), fun id hid => absurd hid (by omega)⟩⟩
      have hlt : i < (madeCells #[.int .u8 0, .int .i64 0, .string ByteArray.empty] (tot * 3)).size := by rw [size_madeCells]; exact hi
      show _ = some (Option.getD _ _)
      rw [Array.getElem?_eq_getElem hlt]
      rfl
  case rest =>
    obtain ⟨N1, D1⟩ := hcut
    clear hmul hmk
    have c4 := cell_whole N1.g 4
    simp at c4
    go_wp2_with fail
    go_loopg [38] tot (fun gk i wr => ∃ d : Nat, d + gk = tot ∧ i = .int .i64 d ∧ Ng w n k m tot (.slice none 0 0) 4 wr ∧ Drawn (w.heap.size + 3) k m tot d wr)
    case atStart => exact ⟨0, by omega, rfl, N1, D1⟩
    case round =>
      obtain ⟨d, hd, rfl, N, D⟩ := hrel
      clear N1 D1 c4
      have HD : Hid (d + gk = tot) := hd
      by_cases hlt : d < tot
      · have hlti : (d : Int) < (tot : Int) := by omega
        clear hd
        have x0 := cell_whole N.g 0
        have x2 := cell_whole N.g 2
        have x3 := cell_whole N.g 3
        have x4 := cell_whole N.g 4
        simp at x0 x2 x3 x4
        go_wp2_with fail
        refine (intN_z (w.heap.size + 2) (w.heap.size + 1) _ (by omega) (by omega) _ x0 (by omega) N.gen).mono ?_
        rintro e w1 ⟨⟨r, hr, rfl⟩, R1⟩
        have N1 := N.rnd R1
        have D1 := D.of_block (R1.block (w.heap.size + 3) (by omega))
        clear N D R1 x0 x2 x3 x4
        go_upto_if 43 with fail
        go_cut [5] (fun s5 wx => wx = w1 ∧ ∃ a : Nat, (a = 1 ∨ a = 2) ∧ s5 = .int .u8 a)
        case first =>
          go_wp2_with fail
          all_goals
            go_meet
            case rel => exact ⟨rfl, _, (by first | exact Or.inl rfl | exact Or.inr rfl), rfl⟩
        case rest =>
          obtain ⟨rfl, a, ha, rfl⟩ := hcut
          have x0 := cell_whole N1.g 0
          have x2 := cell_whole N1.g 2
          have x3 := cell_whole N1.g 3
          have x4 := cell_whole N1.g 4
          simp at x0 x2 x3 x4
          obtain ⟨f, s, r1, r2, r3⟩ := D1.st
          have c0 := r1.cell (i := d * 3) (by omega)
          have c1 := r1.cell (i := d * 3 + 1) (by omega)
          have c2 := r1.cell (i := d * 3 + 2) (by omega)
          have z0 := r1.frozen (d * 3)
          have z1 := r1.frozen (d * 3 + 1)
          have z2 := r1.frozen (d * 3 + 2)
          have hk0 : ¬ k = 0 := by omega
          have HA : Hid (a = 1 ∨ a = 2) := ha
          clear r1 r2 r3 ha
          go_wp2_with fail
          go_region_held3 (fun w' => w'.cell? ⟨w.heap.size + 2, 4, none⟩ = some (.slice (some ⟨w.heap.size + 3, 0, none⟩) tot tot) ∧ w'.cell? ⟨w.heap.size + 2, 2, none⟩ = some (.int .i64 k))
            (first | exact ⟨x4, x2⟩ | exact ⟨(R2.cell (by omega) 4).trans x4, (R2.cell (by omega) 2).trans x2⟩ | exact ⟨keepS _ _ (keepS _ _ (keepS _ _ ((R2.cell (by omega) 4).trans x4) (by simp)) (by simp)) (by simp), keepS _ _ (keepS _ _ (keepS _ _ ((R2.cell (by omega) 2).trans x2) (by simp)) (by simp)) (by simp)⟩)
            (first | (go_at_call 15; refine (item_any (w.heap.size + 2) (w.heap.size + 1) m hm hm' _ ?_ ?_ ?_ ?_).mono ?_; (· exact x0); (· exact x3); (· omega); (· exact N1.gen); (rintro e w2 ⟨⟨x, hx, rfl⟩, R2⟩; have y0 := (R2.cell (k := w.heap.size + 3) (by omega) (d * 3)).trans c0; have y1 := (R2.cell (k := w.heap.size + 3) (by omega) (d * 3 + 1)).trans c1; have y2 := (R2.cell (k := w.heap.size + 3) (by omega) (d * 3 + 2)).trans c2; have t0 := (R2.frozen (k := w.heap.size + 3) (by omega) (d * 3)).trans z0; have t1 := (R2.frozen (k := w.heap.size + 3) (by omega) (d * 3 + 1)).trans z1; have t2 := (R2.frozen (k := w.heap.size + 3) (by omega) (d * 3 + 2)).trans z2)))
          have N2 : Ng w n k m tot (.slice none 0 0) 4 w2 := Ng.rnd N1.drew R2
          have D2 : Drawn (w.heap.size + 3) k m tot d w2 := Drawn.of_block (wx := wc) D1 (R2.block _ (by omega))
          have D3 := D2.put a x (wrap64 (wrap64 ((d : Int) / (k : Int)) + 1)) HA.out hx (txn_wrap d k (by omega))
          have N3 := ((N2.set (w.heap.size + 3) (d * 3) (.int .u8 a) (by omega)).set (w.heap.size + 3) (d * 3 + 1) (.int .i64 (wrap64 (wrap64 ((d : Int) / (k : Int)) + 1))) (by omega)).set (w.heap.size + 3) (d * 3 + 2) (.string (itm x)) (by omega)
          have hgk := HD.out
          clear N1 D1 N2 D2 R2 x0 x2 x3 x4 c0 c1 c2 z0 z1 z2 y0 y1 y2 t0 t1 t2
          go_wp2_with fail
          go_roundg (gk - 1)
          case measure => omega
          case rel => exact ⟨d + 1, by omega, by go_num, N3, D3⟩
      obtain rfl : d = tot := by omega
      clear hd HD
      have hmk3 := run_make_row' (P := Yba.prog) 34 3 (.int .i64 0) 8 Yba.underlying34 Yba.info3' rfl .i64 .i64 n (by omega) (by omega)
      have x1 := cell_whole N.g 1
      have x5 := cell_whole N.g 5
      have z5 := frozen_whole N.g 5
      simp at x1 x5
      have hsz := N.size
      have N2 := Ng.perm N
      have D2 := D.of_block (Ng.perm_block N (pm := .slice (some ⟨w.heap.size + 4, 0, none⟩) n n))
      have P2 := Ng.perm_row N (pm := .slice (some ⟨w.heap.size + 4, 0, none⟩) n n)
      have x5n := cell_whole N2.g 5
      simp at x5n
      go_wp2_with fail
      clear x1 x5 z5 hsz hmk3 N D
      go_loopg [75] n (fun gk i wr => ∃ q : Nat, q + gk = n ∧ i = .int .i64 q ∧ Ng w n k m d (.slice (some ⟨w.heap.size + 4, 0, none⟩) n n) 5 wr ∧ Drawn (w.heap.size + 3) k m d d wr ∧ wr.rowIs (w.heap.size + 4) 3 n (fun j => .int .i64 ((if j < q then j else 0 : Nat) : Int)))
      case atStart => exact ⟨0, by omega, rfl, N2, D2, P2.congr (fun i _ => by rw [if_neg (by omega)]; rfl)⟩
      case round =>
        obtain ⟨q, hq, rfl, N, D, P⟩ := hrel
        clear N2 D2 P2 x5n
        have HQ : Hid (q + gk = n) := hq
        by_cases hlt : q < n
        · clear hq
          have x5 := cell_whole N.g 5
          simp at x5
          have c1 := P.cell hlt
          have c2 := P.frozen q
          have N3 := N.set (w.heap.size + 4) q (.int .i64 q) (by omega)
          have D3 := D.of_block (Below.heap_setCell wr ⟨w.heap.size + 4, q, none⟩ (.int .i64 q) _ (by simp))
          have P3 := (P.set q (.int .i64 q)).congr (g := fun j => .int .i64 ((if j < q + 1 then j else 0 : Nat) : Int)) (by
            intro i hi
            by_cases e : i = q
            · subst e; simp
            · simp only [if_neg e]
              by_cases e2 : i < q
              · rw [if_pos e2, if_pos (by omega)]
              · rw [if_neg e2, if_neg (by omega)])
          clear N D P
          go_wp2_with fail
          have hq := HQ.out
          go_roundg (gk - 1)
          case measure => omega
          case rel => exact ⟨q + 1, by omega, by go_num, N3, D3, P3⟩
        obtain rfl : q = n := by omega
        clear hq HQ hlt
        have P' : ∃ p, Prm q p ∧ wr.rowIs (w.heap.size + 4) 3 q (fun j => .int .i64 ((p j : Nat) : Int)) := ⟨fun i => i, Prm.id q, P.congr (fun i hi => by simp [hi])⟩
        clear P
        have x1 := cell_whole N.g 1
        simp at x1
        obtain ⟨q1, rfl⟩ : ∃ q1, q = q1 + 1 := ⟨q - 1, by omega⟩
        go_wp2_with fail
        go_loopg [7] q1 (fun gk i wr => ∃ j : Nat, j ≤ q1 ∧ j = gk ∧ i = .int .i64 j ∧ Ng w (q1 + 1) k m d (.slice (some ⟨w.heap.size + 4, 0, none⟩) (q1 + 1) (q1 + 1)) 5 wr ∧ Drawn (w.heap.size + 3) k m d d wr ∧ ∃ p, Prm (q1 + 1) p ∧ wr.rowIs (w.heap.size + 4) 3 (q1 + 1) (fun j => .int .i64 ((p j : Nat) : Int)))
        case atStart => exact ⟨q1, by omega, rfl, by simp, N, D, P'⟩
        case round =>
          obtain ⟨j, hj, hgk, rfl, N', D', p, hp, P⟩ := hrel
          clear N D P' x1
          have HGK : Hid (j = gk) := hgk
          clear hgk
          by_cases hlt : 0 < j
          · have x0 := cell_whole N'.g 0
            simp at x0
            have hlti : (0 : Int) < (j : Int) := by omega
            go_wp2_with fail
            refine (intN_z (w.heap.size + 2) (w.heap.size + 1) _ (by omega) (by omega) _ x0 (by omega) N'.gen).mono ?_
            rintro e w1 ⟨⟨r, hr, rfl⟩, R1⟩
            have N2 := N'.rnd R1
            have D2 := D'.of_block (R1.block (w.heap.size + 3) (by omega))
            have P2 := P.of_block (R1.block (w.heap.size + 4) (by omega))
            clear N' D' P R1 x0
            have x5 := cell_whole N2.g 5
            simp at x5
            have hr' : r < q1 + 1 := by omega
            have c1 := P2.cell (i := j) (by omega)
            have c2 := P2.cell (i := r) hr'
            have z1 := P2.frozen j
            have z2 := (P2.set j (.int .i64 (p r))).frozen r
            obtain ⟨v3, c3⟩ : ∃ v, (w1.setCell ⟨w.heap.size + 4, j, none⟩ (.int .i64 (p r))).cell? ⟨w.heap.size + 4, r, none⟩ = some v := ⟨_, (P2.set j (.int .i64 (p r))).cell hr'⟩
            go_wp2_with fail
            have hp3 := hp.swp (i := j) (j := r) (by omega) hr'
            have N3 : Ng w (q1 + 1) k m d (.slice (some ⟨w.heap.size + 4, 0, none⟩) (q1 + 1) (q1 + 1)) 5 ((w1.setCell ⟨w.heap.size + 4, j, none⟩ (.int .i64 (p r))).setCell ⟨w.heap.size + 4, r, none⟩ (.int .i64 (p j))).drew :=
              Ng.drew (Ng.set (Ng.set N2 (w.heap.size + 4) j _ (by omega)) (w.heap.size + 4) r _ (by omega))
            have D3 : Drawn (w.heap.size + 3) k m d d ((w1.setCell ⟨w.heap.size + 4, j, none⟩ (.int .i64 (p r))).setCell ⟨w.heap.size + 4, r, none⟩ (.int .i64 (p j))).drew :=
              Drawn.of_block (wx := w1) D2 (by show ((w1.setCell ⟨w.heap.size + 4, j, none⟩ (.int .i64 (p r))).setCell ⟨w.heap.size + 4, r, none⟩ (.int .i64 (p j))).heap[_]? = _; rw [Below.heap_setCell _ _ _ _ (by simp), Below.heap_setCell _ _ _ _ (by simp)])
            have P3 : ((w1.setCell ⟨w.heap.size + 4, j, none⟩ (.int .i64 (p r))).setCell ⟨w.heap.size + 4, r, none⟩ (.int .i64 (p j))).drew.rowIs (w.heap.size + 4) 3 (q1 + 1) (fun x => .int .i64 ((swp p j r x : Nat) : Int)) := row_swp P2
            clear N2 D2 P2
            go_region
            clear x5 c1 c2 c3 z1 z2
            go_wp2_with fail
            have hgk := HGK.out
            go_roundg (gk - 1)
            case measure => omega
            case rel => exact ⟨j - 1, by omega, by omega, by go_num, N3, D3, _, hp3, P3⟩
          · obtain rfl : j = 0 := by omega
            go_wp2_with fail
            go_ret
            obtain ⟨s, S⟩ := newGen_of N' D' hp P
            refine ⟨rfl, p, s, ?_⟩
            rw [← HT.out]
            exact S
end Go.Proofs.Ybulkblde
