/-
  THE LAW 'LawS3098BTopo': its walk.
-/
import Derived.Test.YbulkbldeOutB
import Derived.Laws.BitsAllLaws
namespace Go.Proofs.Ybulkblde
open Go.RowKit
attribute [local go_sem ↓] hide63

theorem info21 : (Yba.prog.info? 21).map (fun i => (i.zero, i.size, i.bytes)) = some (some (.int .i32 0), 1, 4) := by kernel_rfl
theorem info34 : (Yba.prog.info? 34).map (fun i => (i.zero, i.size, i.bytes)) = some (some (.slice none 0 0), 1, 24) := by kernel_rfl

/-- an edge's two ends -/
theorem edge_facts (z : Int) (n : Nat) (h0 : 0 ≤ z) (h1 : z ≤ 65535) (hn : 1 ≤ n) (hn2 : n ≤ 255) : ∃ a b y : Nat, a < n ∧ b < n ∧ Op.shift .shr .u16 z .u64 8 = pure (.int .u16 (z / 256)) ∧ 0 ≤ z / 256 ∧ z / 256 ≤ 255 ∧ (z / 256) % (n : Int) = a ∧
    bits .and .u16 z 255 = (y : Int) ∧ y ≤ 255 ∧ (y : Int) % (n : Int) = b := by
  have e1 : 0 ≤ z / 256 := by omega
  have m1 : 0 ≤ (z / 256) % (n : Int) := Int.emod_nonneg _ (by omega)
  have m2 : (z / 256) % (n : Int) < n := Int.emod_lt_of_pos _ (by omega)
  have y1 : z.toNat &&& 255 ≤ 255 := Nat.and_le_right
  have k2 : (z.toNat &&& 255) % n < n := Nat.mod_lt _ (by omega)
  refine ⟨((z / 256) % (n : Int)).toNat, (z.toNat &&& 255) % n, z.toNat &&& 255, by omega, k2, ?_, e1, by omega, by omega, ?_, y1, by omega⟩
  · rw [shift_shr .u16 .u64 z 8 (by decide) (by decide)]
    rfl
  · have := u16_and z 255 h0 (by omega) (by decide) (by decide)
    simpa using this

set_option maxRecDepth 100000 in
theorem build_topo (a b c d : Addr) (n : Nat) (ev : Int) (w : World) : (bld63 #[(6, .slice (some a) n n), (31, .slice (some b) n n), (32, .slice (some c) n n), (30, .int .i64 ev), (25, .slice (some d) 2 2)]).run Yba.prog w = .ok (.agg (vsCells (.slice (some a) n n) (.slice (some b) n n) (.slice (some c) n n) (.int .i64 ev) (.slice (some d) 2 2))) w := by kernel_rfl

/-- ord and nodeAt after k rounds of the law's second loop -/
structure MRel (w : World) (n k : Nat) (wr : World) : Prop where
  bel : Below w.heap.size w wr
  size : wr.heap.size = w.heap.size + 2
  ro : wr.rowIs w.heap.size 21 n (fun j => .int .i32 (if j < k then -1 else 0))
  rn : wr.rowIs (w.heap.size + 1) 21 n (fun j => .int .i32 (if j < k then -1 else 0))

theorem MRel.start (w : World) (n : Nat) : MRel w n 0 ((w.alloc (.cells (madeCells #[.int .i32 0] n) 21)).alloc (.cells (madeCells #[.int .i32 0] n) 21)) := by
  refine ⟨((Below.refl _ _).alloc (Nat.le_refl _) _).alloc (by simp) _, by simp, (World.rowIs.alloc (World.rowIs_made w (.int .i32 0) n 21) _).congr (fun i _ => by simp), ?_⟩
  have := World.rowIs_made (w.alloc (.cells (madeCells #[.int .i32 0] n) 21)) (.int .i32 0) n 21
  simp at this
  exact this.congr (fun i _ => by simp)

theorem MRel.step {w : World} {n k : Nat} {wr : World} (h : MRel w n k wr) : MRel w n (k + 1) ((wr.setCell ⟨w.heap.size, k, none⟩ (.int .i32 (-1))).setCell ⟨w.heap.size + 1, k, none⟩ (.int .i32 (-1))) := by
  refine ⟨(h.bel.setCell (Nat.le_refl _) _).setCell (Nat.le_succ _) _, by simpa [World.setCell] using h.size, ?_, ?_⟩
  · refine ((h.ro.set k _).setOther (by simp) _).congr ?_
    intro i _
    by_cases e : i = k
    · subst e; simp
    · have : i < k + 1 ↔ i < k := by omega
      simp [e, this]
  · refine ((h.rn.setOther (by simp) _).set k _).congr ?_
    intro i _
    by_cases e : i = k
    · subst e; simp
    · have : i < k + 1 ↔ i < k := by omega
      simp [e, this]

/-- What lies in memory where the law calls 'start'. -/
structure MadeT (wc : World) (S n : Nat) (ev : Int) (rows : Nat → List Nat) (W : World) : Prop where
  bel : Below wc.heap.size wc W
  v : Vs W (wc.heap.size + 3) wc.heap.size (wc.heap.size + 1) n ev (some ⟨wc.heap.size + 2, 0, none⟩) 2 2
  c6 : W.cell? ⟨wc.heap.size + 3, 6, none⟩ = some (.slice (some ⟨S, 0, none⟩) n n)
  out : Out W S n wc.heap.size rows
  ro : W.rowIs wc.heap.size 21 n (fun _ => .int .i32 (-1))
  rn : W.rowIs (wc.heap.size + 1) 21 n (fun _ => .int .i32 (-1))
  size : W.heap.size = wc.heap.size + 4

theorem madeT {wc wr : World} {S n : Nat} {ev : Int} {rows : Nat → List Nat} (R : MRel wc n n wr) (O : Out wc S n wc.heap.size rows) : MadeT wc S n ev rows ((wr.alloc (Obj.cells #[Value.int IntKind.i32 4, Value.int IntKind.i32 5] 21)).alloc
      (Obj.cells (vsCells (Value.slice (some ⟨S, 0, none⟩) n n) (Value.slice (some ⟨wc.heap.size, 0, none⟩) n n) (Value.slice (some ⟨wc.heap.size + 1, 0, none⟩) n n) (Value.int IntKind.i64 ev) (Value.slice (some ⟨wc.heap.size + 2, 0, none⟩) 2 2)) 63)) := by
  have hs := R.size
  have bel := (R.bel.alloc (by omega) (Obj.cells #[Value.int IntKind.i32 4, Value.int IntKind.i32 5] 21)).alloc (by simp; omega) (Obj.cells (vsCells (Value.slice (some ⟨S, 0, none⟩) n n) (Value.slice (some ⟨wc.heap.size, 0, none⟩) n n) (Value.slice (some ⟨wc.heap.size + 1, 0, none⟩) n n) (Value.int IntKind.i64 ev) (Value.slice (some ⟨wc.heap.size + 2, 0, none⟩) 2 2)) 63)
  have hh : ((wr.alloc (Obj.cells #[Value.int IntKind.i32 4, Value.int IntKind.i32 5] 21)).alloc
      (Obj.cells (vsCells (Value.slice (some ⟨S, 0, none⟩) n n) (Value.slice (some ⟨wc.heap.size, 0, none⟩) n n) (Value.slice (some ⟨wc.heap.size + 1, 0, none⟩) n n) (Value.int IntKind.i64 ev) (Value.slice (some ⟨wc.heap.size + 2, 0, none⟩) 2 2)) 63)).heap[wc.heap.size + 3]? = some (.cells (vsCells (Value.slice (some ⟨S, 0, none⟩) n n) (Value.slice (some ⟨wc.heap.size, 0, none⟩) n n) (Value.slice (some ⟨wc.heap.size + 1, 0, none⟩) n n) (Value.int IntKind.i64 ev) (Value.slice (some ⟨wc.heap.size + 2, 0, none⟩) 2 2)) 63 (0, 0)) := heap_new (by simp; omega)
  refine ⟨bel, vs_new hh, ?_, O.below bel, ?_, ?_, by simp; omega⟩
  · rw [cell_whole hh]; rfl
  · exact ((R.ro.alloc _).alloc _).congr (fun i hi => by simp [hi])
  · exact ((R.rn.alloc _).alloc _).congr (fun i hi => by simp [hi])

theorem run_lt (rows : Nat → List Nat) (n : Nat) : ∀ fuel pl, (∀ x, x ∈ pl → x < n) → ∀ x, x ∈ run rows n fuel pl → x < n := by
  intro fuel
  induction fuel with
  | zero => intro pl h; exact h
  | succ k ih =>
    intro pl h
    unfold run
    split
    · rename_i hlt
      refine ih _ ?_
      intro x hx
      simp at hx
      rcases hx with hx | rfl
      · exact h x hx
      · exact hlt
    · exact h

theorem OwnI.shape' {B : Nat} {v : Value} {l : List Nat} {w : World} (h : OwnI B v l w) : ∃ a n c, v = .slice a n c := by
  obtain ⟨a, c, e, _⟩ := h.shape
  exact ⟨a, _, c, e⟩

theorem OB.blk {w : World} {n i : Nat} {rows : Nat → List Nat} {wr : World} (h : OB w n i rows wr) {v : Nat → Value} (own : ∀ a, a < n → OwnI (w.heap.size + 1) (v a) (rows a) wr)
    (a b : Nat) (ha : a < n) {v' : Value} {w' : World} (A : App (w.heap.size + 1) (v a) (rows a) b wr v' w') : w'.heap[w.heap.size]? = wr.heap[w.heap.size]? := by
  have hs := h.size
  exact A.grown.block w.heap.size (by omega) (fun e => by have := (World.ownsRow.lt (own a ha) _ e.symm).1; omega)

set_option maxRecDepth 100000 in
set_option maxHeartbeats 4000000 in
theorem topo_row (a0 : Option Addr) (m cap : Nat) (z : Nat → Int) (n : Nat) (ev : Int) (w : World) (hm : m ≤ 1024) (hn : n ≤ 255)
    (hz : ∀ i, i < m → 0 ≤ z i ∧ z i ≤ 65535) (hcell : ∀ i, i < m → ∃ b off, a0 = some ⟨b, off, none⟩ ∧ b < w.heap.size ∧ w.cell? ⟨b, off + i, none⟩ = some (.int .u16 (z i))) :
    Calls Yba.prog 4 #[.int .u8 n, .slice a0 m cap, .int .i64 ev] w fun e w' => e = .returned (.bool true) ∧ Below w.heap.size w w' := by
  have hmk21 := run_make_row' (P := Yba.prog) 45 21 (.int .i32 0) 4 Yba.underlying45 info21 rfl .i64 .i64 n (by omega) (by omega)
  have hmk34 := run_make_row' (P := Yba.prog) 42 34 (.slice none 0 0) 24 Yba.underlying42 info34 rfl .i64 .i64 n (by omega) (by omega)
  have h1024 : decide ((1024 : Int) < (m : Int)) = false := decide_eq_false (by omega)
  have h0 : OB w n 0 (fun _ => []) (w.alloc (.cells (madeCells #[.slice none 0 0] n) 34)) := OB.start
  go_enter Yba.func4, Yba.ntmps4
  go_upto_if 30 with fail
  go_cut [8] (fun s8 wx => s8 = .slice (some ⟨w.heap.size, 0, none⟩) n n ∧ ∃ rows i, i ≤ 1024 ∧ OB w n i rows wx)
  case first =>
    by_cases hn0 : n = 0
    · have hni : ¬ (0 : Int) < n := by omega
      have HS := (show Hid _ from h0)
      clear hn0 h0 hmk21 hmk34
      go_wp2_with fail
      go_meet
      case rel => exact ⟨rfl, _, 0, by omega, HS.out⟩
    · have hni : (0 : Int) < n := by omega
      have hnd : decide (0 < n) = true := decide_eq_true (by omega)
      clear hmk21 hmk34
      go_wp2_with fail
      try rw [hnd]
      go_loopw [33] (fun i wr => ∃ j : Nat, j ≤ m ∧ i = .int .i64 j ∧ ∃ rows, OB w n j rows wr) (fun i _ => m - (intOf i).toNat)
      case atStart => exact ⟨0, Nat.zero_le _, rfl, _, h0⟩
      case round =>
        obtain ⟨j, hj, rfl, rows, R⟩ := hrel
        clear h0
        by_cases hlt : j < m
        · obtain ⟨b0, off, rfl, hb0, hc⟩ := hcell j hlt
          have hc' : wr.cell? ⟨b0, off + j, none⟩ = some (.int .u16 (z j)) := (World.cell?_of_block (w := w) (R.but.block b0 hb0 (by simp))).trans hc
          obtain ⟨z1, z2⟩ := hz j hlt
          obtain ⟨a, b, y, ha, hb, q1, q2, q3, q4, q5, q6, q7⟩ := edge_facts (z j) n z1 z2 (by omega) hn
          have hlti : (j : Int) < m := by omega
          obtain ⟨v, row, own, ap⟩ := R.row
          have ca := row.cell ha
          have hlen := R.len a ha
          have oa := own a ha
          have K : ∀ v' w', App (w.heap.size + 1) (v a) (rows a) b wr v' w' → (∃ u, w'.cell? ⟨w.heap.size, a, none⟩ = some u) ∧ w'.frozen? ⟨w.heap.size, a, none⟩ = false ∧ Hid (OB w n (j + 1) (addE rows a b) (w'.setCell ⟨w.heap.size, a, none⟩ v')) := by
            intro v' w' A
            have e := R.blk own a b ha A
            have r2 := row.of_block e
            exact ⟨⟨_, r2.cell ha⟩, r2.frozen a, R.step row own ap a b ha hb A⟩
          have hsz := R.size
          clear hz hcell hc R row own ap
          go_wp2_with (at_builtin; refine wp_int wr rfl _ _ rfl oa (by omega) hsz b _ rfl rfl rfl ?_; intro v' w' A'; obtain ⟨a', n', c', rfl⟩ := A'.own.shape'; obtain ⟨⟨u, k1⟩, k2, k3⟩ := K _ w' A'; clear A')
          go_roundw
          case rel => exact ⟨j + 1, by omega, by go_num, _, k3.out⟩
          case measure => simp [intOf]; omega
        · obtain rfl : j = m := by omega
          have HS := (show Hid _ from R)
          clear R hz hcell
          go_wp2_with fail
          go_meet
          case rel => exact ⟨rfl, rows, j, hm, HS.out⟩
  case rest =>
    obtain ⟨rfl, rows, i, hi, R⟩ := hcut
    have O := R.out hi
    have bel0 : Below w.heap.size w wc := R.but.below (Nat.le_refl _) (by simp)
    have hsz := R.size
    have hM0 := MRel.start wc n
    have HO := (show Hid _ from (⟨O, bel0⟩ : _ ∧ _))
    clear R O bel0 hz hcell h0 hmk34
    go_wp2_with fail
    go_loopw [15] (fun i wr => ∃ k : Nat, k ≤ n ∧ i = .int .i64 k ∧ MRel wc n k wr) (fun i _ => n - (intOf i).toNat)
    case atStart => exact ⟨0, Nat.zero_le _, rfl, hM0⟩
    case round =>
      obtain ⟨k, hk, rfl, R⟩ := hrel
      clear hM0
      by_cases hlt : k < n
      · have c1 := R.ro.cell hlt
        have c2 := R.ro.frozen k
        have c3 := R.rn.cell hlt
        have c4 := R.rn.frozen k
        have R' := R.step
        have hlti : (k : Int) < n := by omega
        clear hmk21 R
        go_wp2_with fail
        go_roundw
        case rel => exact ⟨k + 1, by omega, by go_num, R'⟩
        case measure => simp [intOf]; omega
      · obtain rfl : k = n := by omega
        have hbuild := fun (a b c d : Addr) w => build_topo a b c d k ev w
        have hbox := fun (x6 x31 x32 x30 x25 : Value) w => box_vs x6 x31 x32 x30 x25 w
        have hRs := R.size
        have HR := (show Hid _ from R)
        clear hmk21 R
        go_wp2_with fail
        obtain ⟨O, bel0⟩ := HO.out
        have MT := madeT (ev := ev) HR.out O
        clear HO HR O hbuild hbox hRs
        generalize ((wr.alloc (Obj.cells #[Value.int IntKind.i32 4, Value.int IntKind.i32 5] 21)).alloc
          (Obj.cells (vsCells (Value.slice (some ⟨w.heap.size, 0, none⟩) k k) (Value.slice (some ⟨wc.heap.size, 0, none⟩) k k) (Value.slice (some ⟨wc.heap.size + 1, 0, none⟩) k k) (Value.int IntKind.i64 ev) (Value.slice (some ⟨wc.heap.size + 2, 0, none⟩) 2 2)) 63)) = W at MT ⊢
        obtain ⟨bel, v, c6, out, ro, rn, hW⟩ := MT
        rw [show wc.heap.size + 2 + 1 = wc.heap.size + 3 from rfl]
        have ST := start_topo (wc.heap.size + 3) w.heap.size wc.heap.size (wc.heap.size + 1) k wc.heap.size rows ev _ 2 2 W hn v c6 out (by omega) _ _ ro rn (by omega) (by omega) (by omega) ⟨by omega, by omega, by omega⟩ ⟨by omega, by decide⟩
        have c44 := v.c44
        have c45 := v.c45
        have HA := (show Hid _ from (⟨bel0, bel⟩ : _ ∧ _))
        clear v c6 bel0 bel
        refine ST.mono ?_
        rintro e ws (⟨hT, rfl, hb⟩ | ⟨hT, rfl, L⟩)
        · clear ST
          have MD := model_any ws hn (out.below (hb.below (by omega) (by simp))) (by have := hb.size; omega)
          have c44' : ws.cell? ⟨wc.heap.size + 3, 44, none⟩ = _ := (World.cell?_of_block (w := W) (hb.block (wc.heap.size + 3) (by omega) (by simp))).trans c44
          have c45' : ws.cell? ⟨wc.heap.size + 3, 45, none⟩ = _ := (World.cell?_of_block (w := W) (hb.block (wc.heap.size + 3) (by omega) (by simp))).trans c45
          have ro' := ro.of_block (hb.block _ (by omega) (by simp))
          have rn' := rn.of_block (hb.block _ (by omega) (by simp))
          have hsw := hb.size
          generalize run rows k k [] = T at MD hT
          rw [decide_eq_false (by omega : ¬ T.length = k)] at MD
          have HB := (show Hid _ from hb)
          clear c44 c45 ro rn hb
          go_wp2_with fail
          refine MD.mono ?_
          rintro e w2 ⟨br, rfl, hb2, f, rf, hf⟩
          have d44 : w2.cell? ⟨wc.heap.size + 3, 44, none⟩ = _ := (World.cell?_of_block (w := ws) (hb2.block (wc.heap.size + 3) (by omega) (by simp))).trans c44'
          have d45 : w2.cell? ⟨wc.heap.size + 3, 45, none⟩ = _ := (World.cell?_of_block (w := ws) (hb2.block (wc.heap.size + 3) (by omega) (by simp))).trans c45'
          have ro2 := ro'.of_block (hb2.block _ (by omega) (by simp))
          have rn2 := rn'.of_block (hb2.block _ (by omega) (by simp))
          have HE : Hid (Below w.heap.size w w2) := by
            obtain ⟨b0, b1⟩ := HA.out
            exact (b0.trans (b1.mono (by omega))).trans ((HB.out.below (by omega) (by simp)).trans (hb2.below (by omega) (by simp)))
          clear MD c44' c45' ro' rn' hsw HB HA hb2 rf hf out
          go_wp2_with fail
          go_loopw [20] (fun i wr => ∃ q : Nat, q ≤ k ∧ i = .int .i64 q ∧ wr = w2) (fun i _ => k - (intOf i).toNat)
          case atStart => exact ⟨0, Nat.zero_le _, rfl, rfl⟩
          case round =>
            obtain ⟨q, hq, rfl, rfl⟩ := hrel
            by_cases hlt' : q < k
            · have t1 := ro2.cell hlt'
              have t2 := rn2.cell hlt'
              have hlti : (q : Int) < k := by omega
              clear ro2 rn2
              go_wp2_with fail
              go_roundw
              case rel => exact ⟨q + 1, by omega, by go_num, by trivial⟩
              case measure => simp [intOf]; omega
            · have hlti : ¬ (q : Int) < k := by omega
              clear ro2 rn2
              go_wp2_with fail
              go_ret
              exact ⟨rfl, HE.out⟩
        · clear ST
          obtain ⟨lb1, ⟨fo, lo1, lo2⟩, ⟨fn, ln1, ln2⟩, l38, l41, l42, l44, l45⟩ := L
          have hws := lb1.size
          have MD := model_any ws hn (out.below lb1) (by omega)
          have hb3 : wc.heap.size + 3 < ws.heap.size := cell_lt l44
          have hb0 : wc.heap.size < ws.heap.size := by omega
          have hp : ∀ q, q < k → (run rows k k []).getD q 0 < k := fun q hq => run_lt rows k k [] (by simp) _ (by
            rw [List.getD_eq_getElem?_getD, List.getElem?_eq_getElem (by omega)]
            exact List.getElem_mem _)
          generalize run rows k k [] = T at MD hT lo2 ln2 hp
          rw [decide_eq_true hT] at MD
          have MD2 : Calls Yba.prog 12 #[.int .i64 (k : Int), .slice (some ⟨w.heap.size, 0, none⟩) k k] ws fun e w' => ∃ br, e = .returned (.tuple #[.slice (some ⟨br, 0, none⟩) k k, .bool true]) ∧ But [] ws w' ∧ w'.rowIs br 3 k (fun i => .int .i64 ((T.getD i 0 : Nat) : Int)) := by
            refine MD.mono ?_
            rintro e w' ⟨br, rfl, hb, f, rf, hf⟩
            refine ⟨br, by rw [hT], hb, rf.congr (fun i hi => ?_)⟩
            have h1 : i < T.length := by omega
            rw [hf i h1, List.getD_eq_getElem?_getD, List.getElem?_eq_getElem h1]
            rfl
          clear MD hT
          generalize hpp : (fun i => T.getD i 0) = p
          have lo2' : ∀ i, i < k → fo (p i) = .int .i32 (i : Int) := by rw [← hpp]; exact lo2
          have ln2' : ∀ i, i < k → fn i = .int .i32 (p i : Int) := by rw [← hpp]; exact ln2
          have hp' : ∀ q, q < k → p q < k := by rw [← hpp]; exact hp
          have MD3 : Calls Yba.prog 12 #[.int .i64 (k : Int), .slice (some ⟨w.heap.size, 0, none⟩) k k] ws fun e w' => ∃ br, e = .returned (.tuple #[.slice (some ⟨br, 0, none⟩) k k, .bool true]) ∧ But [] ws w' ∧ w'.rowIs br 3 k (fun i => .int .i64 (p i : Int)) := by rw [← hpp]; exact MD2
          clear hpp MD2 lo2 ln2 hp
          have HB := (show Hid _ from lb1)
          clear c44 c45 ro rn lb1 hws
          go_wp2_with fail
          refine MD3.mono ?_
          rintro e w2 ⟨br, rfl, hb2, rf2⟩
          have d38 : w2.cell? ⟨wc.heap.size + 3, 38, none⟩ = _ := (World.cell?_of_block (w := ws) (hb2.block (wc.heap.size + 3) hb3 (by simp))).trans l38
          have d41 : w2.cell? ⟨wc.heap.size + 3, 41, none⟩ = _ := (World.cell?_of_block (w := ws) (hb2.block (wc.heap.size + 3) hb3 (by simp))).trans l41
          have d42 : w2.cell? ⟨wc.heap.size + 3, 42, none⟩ = _ := (World.cell?_of_block (w := ws) (hb2.block (wc.heap.size + 3) hb3 (by simp))).trans l42
          have d44 : w2.cell? ⟨wc.heap.size + 3, 44, none⟩ = _ := (World.cell?_of_block (w := ws) (hb2.block (wc.heap.size + 3) hb3 (by simp))).trans l44
          have d45 : w2.cell? ⟨wc.heap.size + 3, 45, none⟩ = _ := (World.cell?_of_block (w := ws) (hb2.block (wc.heap.size + 3) hb3 (by simp))).trans l45
          have ro2 := lo1.of_block (hb2.block wc.heap.size hb0 (by simp))
          have rn2 := ln1.of_block (hb2.block (wc.heap.size + 1) (by omega) (by simp))
          have HE : Hid (Below w.heap.size w w2) := by
            obtain ⟨b0, b1⟩ := HA.out
            exact (b0.trans (b1.mono (by omega))).trans ((HB.out.mono (by omega)).trans (hb2.below (by omega) (by simp)))
          clear MD3 l38 l41 l42 l44 l45 lo1 ln1 HB HA hb2 out hb3 hb0
          go_wp2_with fail
          go_loopw [21] (fun i wr => ∃ q : Nat, q ≤ k ∧ i = .int .i64 q ∧ ∃ m, wr = w2.drewN m) (fun i _ => k - (intOf i).toNat)
          case atStart => exact ⟨0, Nat.zero_le _, rfl, 0, rfl⟩
          case round =>
            obtain ⟨q, hq, rfl, mm, rfl⟩ := hrel
            by_cases hlt' : q < k
            · have t1 := rf2.cell hlt'
              have hpq := hp' q hlt'
              have t3 := ro2.cell hpq
              rw [lo2' q hlt'] at t3
              have t4 := rn2.cell hlt'
              rw [ln2' q hlt'] at t4
              have hlti : (q : Int) < k := by omega
              clear ro2 rn2 rf2 lo2' ln2' hp'
              go_wp2_with fail
              go_quiet (fail)
              go_wp2_with fail
              go_roundw
              case rel => exact ⟨q + 1, by omega, by go_num, _, rfl⟩
              case measure => simp [intOf]; omega
            · have hlti : ¬ (q : Int) < k := by omega
              clear ro2 rn2 rf2 lo2' ln2' hp'
              go_wp2_with fail
              go_ret
              exact ⟨rfl, below_drewN HE.out mm⟩

set_option maxRecDepth 100000 in
set_option maxHeartbeats 400000 in
theorem topo_long (a0 : Option Addr) (m cap : Nat) (x : Int) (ev : Int) (w : World) (hm : 1024 < m) :
    Calls Yba.prog 4 #[.int .u8 x, .slice a0 m cap, .int .i64 ev] w fun e w' => e = .returned (.bool true) ∧ w' = w := by
  have h1024 : decide ((1024 : Int) < (m : Int)) = true := decide_eq_true (by omega)
  go_enter Yba.func4, Yba.ntmps4
  go_wp2_with fail
  go_ret
  exact ⟨rfl, rfl⟩

end Go.Proofs.Ybulkblde
