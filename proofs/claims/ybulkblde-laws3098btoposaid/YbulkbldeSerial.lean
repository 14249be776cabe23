/-
  THE LAW 'LawS3098BSerial': its walk. The shuffle keeps a one-to-one map; 'start' lays ord and nodeAt out along it; the last loop reads them back.
-/
import Derived.Test.YbulkbldeView
import Derived.Test.YbulkbldeBase
import Derived.Deep.DeepCutAuto
namespace Go.Proofs.Ybulkblde
open Go.RowKit
attribute [local go_sem ↓] hide63

theorem Yba.info3 : (Yba.prog.info? 3).map (fun i => (i.zero, i.size, i.bytes)) = some (some (.int .i64 0), 1, 8) := by kernel_rfl
theorem Yba.info21 : (Yba.prog.info? 21).map (fun i => (i.zero, i.size, i.bytes)) = some (some (.int .i32 0), 1, 4) := by kernel_rfl
theorem Yba.info34 : (Yba.prog.info? 34).map (fun i => (i.zero, i.size, i.bytes)) = some (some (.slice none 0 0), 1, 24) := by kernel_rfl

/-- p maps 0 .. n-1 one to one into itself. -/
structure Pm (n : Nat) (p : Nat → Nat) : Prop where
  lt : ∀ i, i < n → p i < n
  inj : ∀ i j, i < n → j < n → p i = p j → i = j

def sw (p : Nat → Nat) (i j : Nat) : Nat → Nat := fun x => if x = j then p i else if x = i then p j else p x

theorem Pm.sw {n : Nat} {p : Nat → Nat} (h : Pm n p) {i j : Nat} (hi : i < n) (hj : j < n) : Pm n (sw p i j) := by
  constructor
  · intro x hx
    unfold Ybulkblde.sw
    split
    · exact h.lt _ hi
    · split
      · exact h.lt _ hj
      · exact h.lt _ hx
  · intro x y hx hy
    unfold Ybulkblde.sw
    have a1 := h.inj x y hx hy
    have a2 := h.inj x j hx hj
    have a3 := h.inj x i hx hi
    have a4 := h.inj y j hy hj
    have a5 := h.inj y i hy hi
    have a6 := h.inj i j hi hj
    grind

/-- the law's two loops that lay the permutation -/
structure L1 (w : World) (n k : Nat) (wr : World) : Prop where
  bel : Below w.heap.size w wr
  size : wr.heap.size = w.heap.size + 1
  row : wr.rowIs w.heap.size 3 n (fun j => .int .i64 ((if j < k then j else 0 : Nat) : Int))

theorem L1.step {w : World} {n k : Nat} {wr : World} (h : L1 w n k wr) : L1 w n (k + 1) (wr.setCell ⟨w.heap.size, k, none⟩ (.int .i64 k)) := by
  refine ⟨h.bel.setCell (Nat.le_refl _) _, by simpa [World.setCell] using h.size, (h.row.set k _).congr ?_⟩
  intro i hi
  by_cases e : i = k
  · subst e; simp
  · simp only [if_neg e]
    by_cases e2 : i < k
    · rw [if_pos e2, if_pos (by omega)]
    · rw [if_neg e2, if_neg (by omega)]

structure L2 (w : World) (n : Nat) (wr : World) : Prop where
  bel : Below w.heap.size w wr
  size : wr.heap.size = w.heap.size + 1
  row : ∃ p, Pm n p ∧ wr.rowIs w.heap.size 3 n (fun j => .int .i64 (p j))

theorem L1.end_ {w : World} {n : Nat} {wr : World} (h : L1 w n n wr) : L2 w n wr := by
  refine ⟨h.bel, h.size, id, ⟨fun i hi => hi, fun i j _ _ h => h⟩, h.row.congr ?_⟩
  intro i hi
  simp [hi]

theorem L2.step {w : World} {n : Nat} {wr : World} (bel : Below w.heap.size w wr) (size : wr.heap.size = w.heap.size + 1) (p : Nat → Nat) (hp : Pm n p)
    (row : wr.rowIs w.heap.size 3 n (fun j => .int .i64 (p j))) (k j : Nat) (hk : k < n) (hj : j < n) :
    L2 w n ((wr.setCell ⟨w.heap.size, k, none⟩ (.int .i64 (p j))).setCell ⟨w.heap.size, j, none⟩ (.int .i64 (p k))) := by
  refine ⟨(bel.setCell (Nat.le_refl _) _).setCell (Nat.le_refl _) _, by simpa [World.setCell] using size, sw p k j, hp.sw hk hj, ((row.set k _).set j _).congr ?_⟩
  intro i hi
  unfold sw
  grind

/-- What lies in memory where the law calls 'start'. -/
structure Made (w : World) (n : Nat) (p : Nat → Nat) (ev : Int) (b bo bn : Nat) (wx : World) : Prop where
  bel : Below w.heap.size w wx
  v : Vs wx b bo bn n ev none 0 0
  ro : wx.rowIs bo 21 n (fun _ => .int .i32 0)
  rn : wx.rowIs bn 21 n (fun _ => .int .i32 0)
  rp : wx.rowIs w.heap.size 3 n (fun j => .int .i64 (p j))
  rk : wx.rowIs (w.heap.size + 1) 3 n (fun j => .int .i64 (p j))
  db : w.heap.size + 2 ≤ b
  dbo : w.heap.size + 2 ≤ bo
  dbn : w.heap.size + 2 ≤ bn
  d1 : b ≠ bo
  d2 : b ≠ bn
  d3 : bo ≠ bn

theorem heap4 (h : Array Obj) (X Y Z V : Obj) : ((((h.push X).push Y).push Z).push V)[h.size]? = some X ∧ ((((h.push X).push Y).push Z).push V)[h.size + 1]? = some Y ∧
    ((((h.push X).push Y).push Z).push V)[h.size + 2]? = some Z ∧ ((((h.push X).push Y).push Z).push V)[h.size + 3]? = some V := by
  refine ⟨?_, ?_, ?_, ?_⟩
  · rw [Array.getElem?_push, if_neg (by simp <;> omega), Array.getElem?_push, if_neg (by simp <;> omega), Array.getElem?_push, if_neg (by simp), Array.getElem?_push, if_pos rfl]
  · rw [Array.getElem?_push, if_neg (by simp <;> omega), Array.getElem?_push, if_neg (by simp), Array.getElem?_push, if_pos (by simp)]
  · rw [Array.getElem?_push, if_neg (by simp), Array.getElem?_push, if_pos (by simp)]
  · rw [Array.getElem?_push, if_pos (by simp)]

theorem rowIs_madeAt {w : World} {b : Nat} {z : Value} {n : Nat} {t : TypeId} (h : w.heap[b]? = some (.cells (madeCells #[z] n) t (0, 0))) : w.rowIs b t n (fun _ => z) :=
  ⟨_, h, size_madeCells _ _, fun i hi => by simp [madeCells, hi, Nat.mod_one]⟩

theorem made_of {w wc wx : World} {n : Nat} {p : Nat → Nat} {ev : Int} {x6 : Value} {X Y Z : Obj} (b bo bn : Nat)
    (bel : Below w.heap.size w wc) (hs : wc.heap.size = w.heap.size + 2)
    (rp : wc.rowIs w.heap.size 3 n (fun j => .int .i64 (p j))) (rk : wc.rowIs (w.heap.size + 1) 3 n (fun j => .int .i64 (p j)))
    (hx : wx = ((((wc.alloc X).alloc Y).alloc Z).alloc (.cells (vsCells x6 (.slice (some ⟨bo, 0, none⟩) n n) (.slice (some ⟨bn, 0, none⟩) n n) (.int .i64 ev) (.slice none 0 0)) 63)).drew)
    (hb : b = wc.heap.size + 3)
    (ho : (bo = wc.heap.size ∧ X = .cells (madeCells #[.int .i32 0] n) 21) ∨ (bo = wc.heap.size + 1 ∧ Y = .cells (madeCells #[.int .i32 0] n) 21) ∨ (bo = wc.heap.size + 2 ∧ Z = .cells (madeCells #[.int .i32 0] n) 21))
    (hn : (bn = wc.heap.size ∧ X = .cells (madeCells #[.int .i32 0] n) 21) ∨ (bn = wc.heap.size + 1 ∧ Y = .cells (madeCells #[.int .i32 0] n) 21) ∨ (bn = wc.heap.size + 2 ∧ Z = .cells (madeCells #[.int .i32 0] n) 21))
    (hne : bo ≠ bn) : Made w n p ev b bo bn wx := by
  subst hx
  refine ⟨((((bel.alloc (by omega) _).alloc (by simp; omega) _).alloc (by simp; omega) _).alloc (by simp; omega) _).drew, vs_new (x6 := x6) ?_, ?_, ?_, (((rp.alloc _).alloc _).alloc _).alloc _, (((rk.alloc _).alloc _).alloc _).alloc _, by omega, by omega, by omega, by omega, by omega, hne⟩
  · subst hb
    exact (heap4 wc.heap X Y Z _).2.2.2
  · apply rowIs_madeAt
    show ((((wc.heap.push X).push Y).push Z).push _)[_]? = _
    have h4 := fun V => heap4 wc.heap X Y Z V
    rcases ho with ⟨h1, h2⟩ | ⟨h1, h2⟩ | ⟨h1, h2⟩
    · rw [h1, (h4 _).1, h2]
    · rw [h1, (h4 _).2.1, h2]
    · rw [h1, (h4 _).2.2.1, h2]
  · apply rowIs_madeAt
    show ((((wc.heap.push X).push Y).push Z).push _)[_]? = _
    have h4 := fun V => heap4 wc.heap X Y Z V
    rcases hn with ⟨h1, h2⟩ | ⟨h1, h2⟩ | ⟨h1, h2⟩
    · rw [h1, (h4 _).1, h2]
    · rw [h1, (h4 _).2.1, h2]
    · rw [h1, (h4 _).2.2.1, h2]

set_option maxRecDepth 100000 in
set_option maxHeartbeats 2000000 in
theorem serial_row (a0 : Option Addr) (n cap : Nat) (z : Nat → Int) (ev : Int) (w : World) (hn : n ≤ 1024)
    (hz : ∀ i, i < n → 0 ≤ z i ∧ z i ≤ 255) (hcell : ∀ i, i < n → ∃ b off, a0 = some ⟨b, off, none⟩ ∧ b < w.heap.size ∧ w.cell? ⟨b, off + i, none⟩ = some (.int .u8 (z i))) :
    Calls Yba.prog 5 #[.slice a0 n cap, .int .i64 ev] w fun e w' => e = .returned (.bool true) ∧ Below w.heap.size w w' := by
  have hmk3 := run_make_row' (P := Yba.prog) 34 3 (.int .i64 0) 8 Yba.underlying34 Yba.info3 rfl .i64 .i64 n (by omega) (by omega)
  have hmk21 := run_make_row' (P := Yba.prog) 45 21 (.int .i32 0) 4 Yba.underlying45 Yba.info21 rfl .i64 .i64 n (by omega) (by omega)
  have hmk34 := run_make_row' (P := Yba.prog) 42 34 (.slice none 0 0) 24 Yba.underlying42 Yba.info34 rfl .i64 .i64 n (by omega) (by omega)
  have h1024 : decide ((1024 : Int) < (n : Int)) = false := decide_eq_false (by omega)
  have h0 : L1 w n 0 (w.alloc (.cells (madeCells #[.int .i64 0] n) 3)) := ⟨(Below.refl _ _).alloc (Nat.le_refl _) _, by simp, (World.rowIs_made w (.int .i64 0) n 3).congr (fun i _ => by simp)⟩
  go_enter Yba.func5, Yba.ntmps5
  go_wp2_with fail
  go_loopw [7] (fun i wr => ∃ k : Nat, k ≤ n ∧ i = .int .i64 k ∧ L1 w n k wr) (fun i _ => n - (intOf i).toNat)
  case atStart => exact ⟨0, Nat.zero_le _, rfl, h0⟩
  case round =>
    obtain ⟨k, hk, rfl, R⟩ := hrel
    clear h0
    by_cases hlt : k < n
    · have c1 := R.row.cell hlt
      have c2 := R.row.frozen k
      have R' := R.step
      clear hz hcell hmk3 hmk21 hmk34
      go_wp2_with fail
      go_roundw
      case rel => exact ⟨k + 1, by omega, by go_num, R'⟩
      case measure => simp [intOf]; omega
    obtain rfl : k = n := by omega
    have R' := R.end_
    clear R hk hlt
    go_wp2_with fail
    go_loopw [8] (fun i wr => ∃ j : Nat, j ≤ k ∧ i = .int .i64 j ∧ L2 w k wr) (fun i _ => k - (intOf i).toNat)
    case atStart => exact ⟨0, Nat.zero_le _, rfl, R'⟩
    case round =>
      obtain ⟨j, hj, rfl, R⟩ := hrel
      clear R'
      by_cases hlt : j < k
      · obtain ⟨b, off, rfl, hb, hc⟩ := hcell j hlt
        have hc' : wr.cell? ⟨b, off + j, none⟩ = some (.int .u8 (z j)) := (R.bel.cell (by exact hb)).trans hc
        obtain ⟨z1, z2⟩ := hz j hlt
        obtain ⟨p, hp, row⟩ := R.row
        have m1 : 0 ≤ z j % ((k : Int) - j) := Int.emod_nonneg _ (by omega)
        have m2 : z j % ((k : Int) - j) < (k : Int) - j := Int.emod_lt_of_pos _ (by omega)
        obtain ⟨q, hq⟩ : ∃ q : Nat, (j : Int) + z j % ((k : Int) - j) = q := ⟨((j : Int) + z j % ((k : Int) - j)).toNat, by omega⟩
        have hqk : q < k := by omega
        have c1 := row.cell hlt
        have c2 := row.frozen j
        have c3 := row.cell hqk
        have c4 := (row.set j (.int .i64 (p q))).frozen q
        obtain ⟨v5, c5⟩ : ∃ v, (wr.setCell ⟨w.heap.size, j, none⟩ (.int .i64 (p q))).cell? ⟨w.heap.size, q, none⟩ = some v := ⟨_, (row.set j (.int .i64 (p q))).cell hqk⟩
        have R' := L2.step R.bel R.size p hp row j q hlt hqk
        clear hz hcell hc hmk3 hmk21 hmk34 hp row R
        go_wp2_with fail
        go_roundw
        case rel => exact ⟨j + 1, by omega, by go_num, R'⟩
        case measure => simp [intOf]; omega
      obtain ⟨p, hp, row⟩ := R.row
      have hsz := R.size
      have bel := R.bel
      have row' := row.alloc (.cells (madeCells #[.int .i64 0] k) 3)
      have rowk := World.rowIs_made wr (.int .i64 0) k 3
      rw [hsz] at rowk
      have bel' := bel.alloc (by omega) (.cells (madeCells #[.int .i64 0] k) 3)
      clear hz hcell R hj row bel
      go_wp2_with (refine wpList_copy_rows rfl (.tmp 63) (.tmp 64) 34 34 rfl 3 Yba.underlying34 (by kernel_rfl) (w.heap.size + 1) w.heap.size k rfl rfl 3 3 _ _ rowk row' (fun _ _ => rfl) w.heap.size (by omega) ?_; intro wc kr kh ks kb)
      have hcs : wc.heap.size = w.heap.size + 2 := by rw [ks.out]; simp [hsz]
      have rowp := row'.of_block (kh.out w.heap.size (by omega))
      have belc := bel'.trans kb
      clear kh ks kb row' rowk bel' hsz
      go_simp
      have hbuild := fun (a b c : Addr) w => build_serial a b c k ev w
      have hbox := fun (x6 x31 x32 x30 x25 : Value) w => box_vs x6 x31 x32 x30 x25 w
      go_cut [12] (fun s12 wx => ∃ b bo bn, s12 = .pointer (some ⟨b, 0, none⟩) ∧ Made w k p ev b bo bn wx)
      case first =>
        go_region
        all_goals
          go_wp2_with fail
          go_meet
          case rel =>
            refine ⟨_, _, _, rfl, made_of _ _ _ belc hcs rowp kr rfl ?_ ?_ ?_ ?_⟩
            · omega
            · first | (left; refine ⟨?_, rfl⟩; omega) | (right; left; refine ⟨?_, rfl⟩; omega) | (right; right; refine ⟨?_, rfl⟩; omega)
            · first | (left; refine ⟨?_, rfl⟩; omega) | (right; left; refine ⟨?_, rfl⟩; omega) | (right; right; refine ⟨?_, rfl⟩; omega)
            · omega
      case rest =>
        obtain ⟨b, bo, bn, rfl, M⟩ := hcut
        clear hbuild hbox hmk3 hmk21 hmk34 rowp kr belc hcs
        obtain ⟨bel, v, ro, rn, rp, rk, db, dbo, dbn, e1, e2, e3⟩ := M
        go_wp2_with fail
        refine (start_serial b w.heap.size bo bn k ev none 0 0 p (w.heap.size + 2) _ hn v rp hp.lt hp.inj _ _ ro rn (by omega) e1 e2 (by omega) (by omega) e3 ⟨db, dbo, dbn⟩ ⟨by omega, by decide⟩).mono ?_
        rintro e ws ⟨rfl, S⟩
        obtain ⟨f, f1, f2⟩ := S.ord
        obtain ⟨g, g1, g2⟩ := S.at_
        have s41 := S.c41
        have s42 := S.c42
        have s44 := S.c44
        have s45 := S.c45
        have rp' := rp.of_block S.es
        have rk' := rk.of_block (S.bel.block (w.heap.size + 1) (by omega))
        have belF : Below w.heap.size w ws := bel.trans (S.bel.mono (by omega))
        clear S v ro rn rp rk bel db dbo dbn e1 e2 e3
        go_wp2_with fail
        go_loopw [13] (fun i wr => ∃ q : Nat, q ≤ k ∧ i = .int .i64 q ∧ ∃ m, wr = ws.drewN m) (fun i _ => k - (intOf i).toNat)
        case atStart => exact ⟨0, Nat.zero_le _, rfl, 0, rfl⟩
        case round =>
          obtain ⟨q, hq, rfl, m, rfl⟩ := hrel
          by_cases hlt' : q < k
          · have t1 := rp'.cell hlt'
            have t2 := rk'.cell hlt'
            have hpq := hp.lt q hlt'
            have t3 := f1.cell hpq
            rw [f2 q hlt'] at t3
            have t4 := g1.cell hlt'
            rw [g2 q hlt'] at t4
            clear rp' rk' f1 f2 g1 g2 belF hp
            go_wp2_with fail
            go_quiet (fail)
            go_wp2_with fail
            go_quiet (fail)
            go_wp2_with fail
            go_roundw
            case rel => exact ⟨q + 1, by omega, by go_num, _, rfl⟩
            case measure => simp [intOf]; omega
          · clear rp' rk' f1 f2 g1 g2 hp
            go_wp2_with fail
            go_ret
            exact ⟨rfl, below_drewN belF m⟩

set_option maxRecDepth 100000 in
set_option maxHeartbeats 400000 in
theorem serial_long (a0 : Option Addr) (n cap : Nat) (ev : Int) (w : World) (hn : 1024 < n) :
    Calls Yba.prog 5 #[.slice a0 n cap, .int .i64 ev] w fun e w' => e = .returned (.bool true) ∧ w' = w := by
  have h1024 : decide ((1024 : Int) < (n : Int)) = true := decide_eq_true (by omega)
  go_enter Yba.func5, Yba.ntmps5
  go_wp2_with fail
  go_ret
  exact ⟨rfl, rfl⟩

end Go.Proofs.Ybulkblde
