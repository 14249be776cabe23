/-
  THE HELD LOCKS, NO INDEX: indexed, start, slices.Index, slices.Contains, add.
-/
import Derived.Test.YbulkblioBase
namespace Go.Proofs.Ybulkblio
open Go.RowKit

set_option linter.unusedSimpArgs false
theorem eql35 (w : World) : (binOp .neq 35 (.slice none 0 0) (.slice none 0 0)).run Yba.prog w = .ok (.bool false) w := by
  simp only [binOp]
  simp [Op.equal, Op.maxDepth, Lib.run_equalIn_slice_nil (P := Yba.prog) w 9999 35 90 none 0 0 0 0 Yba.underlying35]

set_option maxHeartbeats 400000 in
theorem indexed_any (bh : Nat) (w : World) (h : w.cell? ⟨bh, 6, none⟩ = some (.slice none 0 0)) :
    Calls Yba.prog 7 #[.pointer (some ⟨bh, 0, none⟩)] w fun e w' => e = .returned (.bool false) ∧ w' = w := by
  have hq := eql35
  go_enter Yba.func7, Yba.ntmps7
  go_wp2_with fail
  go_ret
  exact ⟨rfl, rfl⟩

set_option maxHeartbeats 400000 in
theorem start_any (bh : Nat) (v : Value) (w : World) (h : w.cell? ⟨bh, 6, none⟩ = some (.slice none 0 0)) :
    Calls Yba.prog 8 #[.pointer (some ⟨bh, 0, none⟩), v] w fun e w' => e = .returned (.int .i64 0) ∧ w' = w := by
  go_enter Yba.func8, Yba.ntmps8
  go_wp2_with fail
  refine (indexed_any bh w h).mono ?_
  rintro e w' ⟨rfl, rfl⟩
  go_wp2_with fail
  go_ret
  exact ⟨rfl, rfl⟩

/-- the durations as they lie in memory -/
structure DurIs (w : World) (ad : Option Addr) (D : List Nat) : Prop where
  at_ : ∀ j (h : j < D.length), ∃ b, ad = some ⟨b, 0, none⟩ ∧ w.cell? ⟨b, j, none⟩ = some (.int .u8 (D[j] : Int))
  le : ∀ x, x ∈ D → x ≤ 255
  len : D.length ≤ 3

set_option maxRecDepth 100000 in
set_option maxHeartbeats 1000000 in
theorem index_any (ad : Option Addr) (c : Nat) (D : List Nat) (d : Nat) (w : World) (hD : DurIs w ad D) :
    Calls Yba.prog 17 #[.slice ad D.length c, .int .u8 d] w fun e w' => ∃ r : Int, e = .returned (.int .i64 r) ∧ (decide (0 ≤ r) = decide (d ∈ D)) ∧ w' = w := by
  have hl := hD.len
  go_enter Yba.func17, Yba.ntmps17
  go_wp2_with fail
  go_loopw [8] (fun i wr => ∃ j : Nat, j ≤ D.length ∧ i = .int .i64 j ∧ (∀ q (h : q < j) (h2 : q < D.length), D[q] ≠ d) ∧ wr = w) (fun i _ => D.length - (intOf i).toNat)
  case atStart => exact ⟨0, Nat.zero_le _, rfl, fun q h => absurd h (by omega), rfl⟩
  case round =>
    obtain ⟨j, hj, rfl, no, rfl⟩ := hrel
    by_cases hlt : j < D.length
    · obtain ⟨b, rfl, hc⟩ := hD.at_ j hlt
      have hlti : (j : Int) < (D.length : Int) := by omega
      have HN := (show Hid _ from no)
      have HD := (show Hid _ from hD)
      have hxd := hD.le _ (List.getElem_mem hlt)
      generalize hx : D[j] = x at hc hxd
      have HX := (show Hid _ from hx)
      clear no hD hx
      by_cases e : d = x
      · subst e
        go_wp2_with fail
        go_ret
        refine ⟨j, rfl, ?_, rfl⟩
        have : d ∈ D := by rw [← HX.out]; exact List.getElem_mem hlt
        simp [this]
      · have ei : ¬ (d : Int) = (x : Int) := by omega
        go_wp2_with fail
        go_roundw
        case rel =>
          refine ⟨j + 1, by omega, by go_num, ?_, by trivial⟩
          intro q h h2
          by_cases e2 : q = j
          · subst e2; rw [HX.out]; exact fun a => e a.symm
          · exact HN.out q (by omega) h2
        case measure => simp [intOf]; omega
    · have hlti : ¬ (j : Int) < (D.length : Int) := by omega
      have HN := (show Hid _ from no)
      clear no hD
      go_wp2_with fail
      go_ret
      refine ⟨-1, rfl, ?_, rfl⟩
      have : d ∉ D := by
        intro hm
        obtain ⟨q, hq, e⟩ := List.getElem_of_mem hm
        exact HN.out q (by omega) hq e
      simp [this]

set_option maxRecDepth 100000 in
set_option maxHeartbeats 1000000 in
theorem contains_any (ad : Option Addr) (c : Nat) (D : List Nat) (d : Nat) (w : World) (hD : DurIs w ad D) :
    Calls Yba.prog 9 #[.slice ad D.length c, .int .u8 d] w fun e w' => e = .returned (.bool (decide (d ∈ D))) ∧ w' = w := by
  have N := index_any ad c D d w hD
  go_enter Yba.func9, Yba.ntmps9
  go_wp2_with fail
  refine N.mono ?_
  rintro e w' ⟨r, rfl, hr, rfl⟩
  go_wp2_with fail
  go_ret
  exact ⟨by first | rfl | (simp [hr]), rfl⟩

/-- The held locks' struct at block bh: the list at bl, its count of locks, the light ones, those of each duration; no index. -/
structure HL (w : World) (bh bl cap len : Nat) (L : Nat) (la : Nat → Nat) : Prop where
  c0 : w.cell? ⟨bh, 0, none⟩ = some (.slice (some ⟨bl, 0, none⟩) len cap)
  c1 : w.cell? ⟨bh, 1, none⟩ = some (.int .i64 (L : Int))
  c2 : ∀ d, d < 4 → w.cell? ⟨bh, 2 + d, none⟩ = some (.int .i64 (la d : Int))
  c6 : w.cell? ⟨bh, 6, none⟩ = some (.slice none 0 0)
  c8 : w.cell? ⟨bh, 8, none⟩ = some (.int .i64 0)
  c13 : w.cell? ⟨bh, 13, none⟩ = some (.pointer none)
  fz : ∀ o, w.frozen? ⟨bh, o, none⟩ = false

theorem HL.of_block {w w' : World} {bh bl cap len L : Nat} {la : Nat → Nat} (h : HL w bh bl cap len L la) (e : w'.heap[bh]? = w.heap[bh]?) : HL w' bh bl cap len L la := by
  have hc : ∀ o, w'.cell? ⟨bh, o, none⟩ = w.cell? ⟨bh, o, none⟩ := fun o => World.cell?_of_block (w := w) e
  have hf : ∀ o, w'.frozen? ⟨bh, o, none⟩ = w.frozen? ⟨bh, o, none⟩ := fun o => World.frozen?_of_block (w := w) e
  exact ⟨(hc _).trans h.c0, (hc _).trans h.c1, fun d hd => (hc _).trans (h.c2 d hd), (hc _).trans h.c6, (hc _).trans h.c8, (hc _).trans h.c13, fun o => (hf o).trans (h.fz o)⟩

theorem HL.light {w : World} {bh bl cap len L : Nat} {la : Nat → Nat} (h : HL w bh bl cap len L la) (x : Nat) : HL (w.setCell ⟨bh, 1, none⟩ (.int .i64 (x : Int))) bh bl cap len x la := by
  refine ⟨?_, ?_, ?_, ?_, ?_, ?_, ?_⟩
  · simp [go_sem, h.c0]
  · simp [go_sem, h.c1]
  · intro d hd
    have e : ¬ 2 + d = 1 := by omega
    have := h.c2 d hd
    simp [go_sem, this, e]
  · simp [go_sem, h.c6]
  · simp [go_sem, h.c8]
  · simp [go_sem, h.c13]
  · intro o; simp [go_sem, h.fz o]

theorem HL.last {w : World} {bh bl cap len L : Nat} {la : Nat → Nat} (h : HL w bh bl cap len L la) (d x : Nat) (hd : d < 4) : HL (w.setCell ⟨bh, 2 + d, none⟩ (.int .i64 (x : Int))) bh bl cap len L (fun i => if i = d then x else la i) := by
  have hx := h.c2 d hd
  refine ⟨?_, ?_, ?_, ?_, ?_, ?_, ?_⟩
  · have e : ¬ 0 = 2 + d := by omega
    have e' : ¬ 2 + d = 0 := by omega
    simp [go_sem, h.c0, e, e']
  · have e : ¬ 1 = 2 + d := by omega
    have e' : ¬ 2 + d = 1 := by omega
    simp [go_sem, h.c1, e, e']
  · intro c hc
    have := h.c2 c hc
    by_cases e : c = d
    · subst e; simp [go_sem, hx]
    · have e1 : ¬ 2 + c = 2 + d := by omega
      have e2 : ¬ 2 + d = 2 + c := by omega
      simp [go_sem, this, e, e1, e2]
      try omega
  · have e : ¬ 6 = 2 + d := by omega
    have e' : ¬ 2 + d = 6 := by omega
    simp [go_sem, h.c6, e, e']
  · have e : ¬ 8 = 2 + d := by omega
    have e' : ¬ 2 + d = 8 := by omega
    simp [go_sem, h.c8, e, e']
  · have e : ¬ 13 = 2 + d := by omega
    have e' : ¬ 2 + d = 13 := by omega
    simp [go_sem, h.c13, e, e']
  · intro o; simp [go_sem, h.fz o]

theorem HL.list {w : World} {bh bl cap len L : Nat} {la : Nat → Nat} (h : HL w bh bl cap len L la) (b' len' cap' : Nat) : HL (w.setCell ⟨bh, 0, none⟩ (.slice (some ⟨b', 0, none⟩) len' cap')) bh b' cap' len' L la := by
  refine ⟨?_, ?_, ?_, ?_, ?_, ?_, ?_⟩
  · simp [go_sem, h.c0]
  · simp [go_sem, h.c1]
  · intro d hd
    have e : ¬ 2 + d = 0 := by omega
    have := h.c2 d hd
    simp [go_sem, this, e]
  · simp [go_sem, h.c6]
  · simp [go_sem, h.c8]
  · simp [go_sem, h.c13]
  · intro o; simp [go_sem, h.fz o]

/-- a request at block b -/
structure Rq (w : World) (b bs d : Nat) (light : Bool) (st : Option Addr) : Prop where
  whole : ∃ cs, w.heap[b]? = some (.cells cs 70 (0, 0)) ∧ cs.size = 32 ∧ cs[0]? = some (.pointer (some ⟨bs, 0, none⟩)) ∧ cs[5]? = some (.int .u8 (d : Int)) ∧ cs[7]? = some (.bool light) ∧ cs[8]? = some (.bool false) ∧
    cs[10]? = some (.pointer none) ∧ cs[14]? = some (.pointer st)

theorem Rq.of_block {w w' : World} {b bs d : Nat} {light : Bool} {st : Option Addr} (h : Rq w b bs d light st) (e : w'.heap[b]? = w.heap[b]?) : Rq w' b bs d light st := by
  obtain ⟨cs, h1, h2⟩ := h.whole
  exact ⟨cs, e.trans h1, h2⟩

theorem Rq.cells {w : World} {b bs d : Nat} {light : Bool} {st : Option Addr} (h : Rq w b bs d light st) : w.cell? ⟨b, 0, none⟩ = some (.pointer (some ⟨bs, 0, none⟩)) ∧ w.cell? ⟨b, 5, none⟩ = some (.int .u8 (d : Int)) ∧ w.cell? ⟨b, 7, none⟩ = some (.bool light) ∧
    w.cell? ⟨b, 8, none⟩ = some (.bool false) ∧ w.cell? ⟨b, 10, none⟩ = some (.pointer none) ∧ w.cell? ⟨b, 14, none⟩ = some (.pointer st) := by
  obtain ⟨cs, h1, _, h2, h3, h4, h5, h6, h7⟩ := h.whole
  have hc := cell_whole h1
  exact ⟨(hc _).trans h2, (hc _).trans h3, (hc _).trans h4, (hc _).trans h5, (hc _).trans h6, (hc _).trans h7⟩

theorem Rq.lt {w : World} {b bs d : Nat} {light : Bool} {st : Option Addr} (h : Rq w b bs d light st) : b < w.heap.size := cell_lt h.cells.1

/-- What 'add' leaves. -/
structure Added (w : World) (bh bl cap len L : Nat) (la : Nat → Nat) (r d : Nat) (light : Bool) (f : Nat → Value) (e : Ending) (w' : World) : Prop where
  ret : ∃ v, e = .returned v
  but : But [bh, bl] w w'
  hl : HL w' bh bl cap (len + 1) (L + if light then 1 else 0) (fun i => if i = d then la d + 1 else la i)
  row : w'.rowIs bl 41 cap (fun i => if i = len then .pointer (some ⟨r, 0, none⟩) else f i)

set_option maxRecDepth 100000 in
set_option maxHeartbeats 1000000 in
theorem add_any {bh bl cap len L : Nat} {la : Nat → Nat} {r bs d : Nat} {light : Bool} {st : Option Addr} {f : Nat → Value} (w : World) (H : HL w bh bl cap len L la) (row : w.rowIs bl 41 cap f) (hlen : len < cap) (hcap : cap ≤ 1024)
    (R : Rq w r bs d light st) (hd : d < 4) (ne : bh ≠ bl) (nr1 : r ≠ bh) (hL : L ≤ 2000) (hla : la d ≤ 2000) :
    Calls Yba.prog 5 #[.pointer (some ⟨bh, 0, none⟩), .pointer (some ⟨r, 0, none⟩)] w fun e w' => Added w bh bl cap len L la r d light f e w' := by
  obtain ⟨_, _, r7, _⟩ := R.cells
  have hrl := R.lt
  go_enter Yba.func5, Yba.ntmps5
  go_upto_if 9 with fail
  go_cut [4] (fun s4 wx => s4 = .bool false ∧ But [bh] w wx ∧ HL wx bh bl cap len (L + if light then 1 else 0) la)
  case first =>
    have c1 := H.c1
    have z1 := H.fz 1
    cases light with
    | true =>
      have H1 := H.light (L + 1)
      have b1 := (But.refl [bh] w).set (g := bh) (by simp) 1 (.int .i64 ((L + 1 : Nat) : Int))
      simp only [Int.natCast_add, Int.cast_ofNat_Int] at H1 b1
      have HS := (show Hid _ from (⟨b1, H1⟩ : _ ∧ _))
      clear H1 b1 H R row
      go_wp2_with fail
      go_meet
      case rel => exact ⟨rfl, HS.out.1, by simpa using HS.out.2⟩
    | false =>
      have HS := (show Hid _ from H)
      clear H R row
      go_wp2_with fail
      go_meet
      case rel => exact ⟨rfl, But.refl _ _, by simpa using HS.out⟩
  case rest =>
    obtain ⟨rfl, hb1, H1⟩ := hcut
    generalize hL1 : (L + if light = true then 1 else 0) = L1 at H1
    have HL1 := (show Hid _ from hL1)
    clear hL1
    have R1 := R.of_block (hb1.block r hrl (by simpa using nr1))
    obtain ⟨_, r5, _, _⟩ := R1.cells
    have row1 := row.of_block (hb1.block bl row.lt (by simpa using ne.symm))
    have c2 := H1.c2 d hd
    have z2 := H1.fz (2 + d)
    have hdi : (d : Int) < 4 := by omega
    have H2 := H1.last d (la d + 1) hd
    have b2 := hb1.set (g := bh) (by simp) (2 + d) (.int .i64 ((la d + 1 : Nat) : Int))
    have row2 := row1.setOther (a := ⟨bh, 2 + d, none⟩) (Ne.symm ne) (.int .i64 ((la d + 1 : Nat) : Int))
    simp only [Int.natCast_add, Int.cast_ofNat_Int] at H2 b2 row2
    clear H row R1 H1 row1
    go_wp2_with fail
    go_region
    have H3 := H2.of_block (w' := (wc.setCell ⟨bh, 2 + d, none⟩ (.int .i64 ((la d : Int) + 1))).drew) rfl
    have row3 := row2.drew
    have b3 := b2.drew
    clear H2 row2 b2 c2 z2 r5 hb1
    generalize (wc.setCell ⟨bh, 2 + d, none⟩ (.int .i64 ((la d : Int) + 1))).drew = W at H3 row3 b3 ⊢
    have c0 := H3.c0
    have hW := row3.lt
    have hWh : bh < W.heap.size := cell_lt c0
    have K : ∀ w2, But [bl] W w2 → w2.cell? ⟨bh, 0, none⟩ = some (.slice (some ⟨bl, 0, none⟩) len cap) ∧ w2.frozen? ⟨bh, 0, none⟩ = false ∧ w2.cell? ⟨bh, 6, none⟩ = some (.slice none 0 0) ∧
        Hid (HL (w2.setCell ⟨bh, 0, none⟩ (.slice (some ⟨bl, 0, none⟩) (len + 1) cap)) bh bl cap (len + 1) L1 (fun i => if i = d then la d + 1 else la i) ∧ But [bh, bl] w (w2.setCell ⟨bh, 0, none⟩ (.slice (some ⟨bl, 0, none⟩) (len + 1) cap))) := by
      intro w2 hb
      have H4 := H3.of_block (hb.block bh hWh (by simpa using ne))
      exact ⟨H4.c0, H4.fz 0, H4.c6, H4.list bl (len + 1) cap, ((b3.mono (by simp)).trans (hb.mono (by simp))).set (by simp) _ _⟩
    have hli : (len : Int) + 1 ≤ 1024 := by omega
    clear H3 b3
    go_wp2_with (at_builtin; refine wp_room W rfl _ _ rfl bl len cap f row3 hlen (some ⟨r, 0, none⟩) _ rfl W.heap.size rfl rfl rfl ?_; intro w2 rf2 hb2; obtain ⟨k1, k2, k3, k4⟩ := K w2 hb2; have HR := (show Hid _ from rf2); clear hb2 rf2)
    refine (indexed_any bh _ (by simpa [go_sem] using k3)).mono ?_
    rintro e w' ⟨rfl, rfl⟩
    go_wp2_with fail
    go_ret
    obtain ⟨o1, o2⟩ := k4.out
    have hL1 := HL1.out
    subst hL1
    exact ⟨⟨_, rfl⟩, o2, o1, World.rowIs.setOther HR.out (Ne.symm ne) _⟩
end Go.Proofs.Ybulkblio
