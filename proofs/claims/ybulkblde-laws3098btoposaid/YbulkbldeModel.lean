/-
  'zzs3098bmodel': the smallest node that no unplaced node has an edge to, one at a time.
-/
import Derived.Test.YbulkbldeOw
namespace Go.Proofs.Ybulkblde
open Go.RowKit

theorem MBut.setNew {S : List Nat} {a b : World} (h : But S a b) {g : Nat} (hg : a.heap.size ≤ g) (i : Nat) (v : Value) : But S a (b.setCell ⟨g, i, none⟩ v) :=
  ⟨h.os, h.tape, h.output, by simpa [World.setCell] using h.size, fun k hk hn => (Below.heap_setCell _ _ _ _ (by show k ≠ g; omega)).trans (h.block k hk hn)⟩
theorem MBut.join {a b c : World} {g : Nat} (h : But [] a b) (k : But [g] b c) (hg : a.heap.size ≤ g) : But [] a c :=
  ⟨k.os.trans h.os, k.tape.trans h.tape, k.output.trans h.output, Nat.le_trans h.size k.size, fun j hj hn => (k.block j (by have := h.size; omega) (by simp; omega)).trans (h.block j hj hn)⟩
theorem MCnt.bound {rows : Nat → List Nat} {n k j : Nat} {wt : Nat → Nat} (h : Cnt rows n k j wt) (hk : k ≤ 255) (hl : ∀ a, a < k → (rows a).length ≤ 1024) (hj : j ≤ 1024) : ∀ i, i < n → wt i ≤ 1000000 := by
  intro i hi
  have h1 := deg_le rows [] 1024 i k hl
  have h2 : k * 1024 ≤ 255 * 1024 := Nat.mul_le_mul_right _ hk
  have h3 : ((rows k).take j).count i ≤ j := Nat.le_trans List.count_le_length (by simp; omega)
  have := h.val i hi
  omega

def cnts (wt : Nat → Nat) : Nat → Value := fun i => .int .i64 (wt i : Int)
theorem cnts_set {w : World} {b n : Nat} {wt : Nat → Nat} (h : w.rowIs b 3 n (cnts wt)) (m x : Nat) : (w.setCell ⟨b, m, none⟩ (.int .i64 (x : Int))).rowIs b 3 n (cnts (fun i => if i = m then x else wt i)) := by
  refine (h.set m _).congr ?_
  intro i _
  unfold cnts
  by_cases e : i = m <;> simp [e]

/-- the model's counting, after k rows and j edges of row k -/
structure KRel (w : World) (n : Nat) (rows : Nat → List Nat) (k j : Nat) (wr : World) : Prop where
  but : But [] w wr
  size : wr.heap.size = w.heap.size + 1
  st : ∃ wt, wr.rowIs w.heap.size 3 n (cnts wt) ∧ Cnt rows n k j wt

/-- the model's memory: the counts, the placed, the order -/
structure MS (w : World) (n : Nat) (wt : Nat → Nat) (pl : List Nat) (wr : World) : Prop where
  but : But [] w wr
  size : w.heap.size + 3 ≤ wr.heap.size
  rc : wr.rowIs w.heap.size 3 n (cnts wt)
  rp : wr.rowIs (w.heap.size + 1) 4 n (fun i => .bool (decide (i ∈ pl)))
  rr : ∃ f, wr.rowIs (w.heap.size + 2) 3 n f ∧ ∀ i (h : i < pl.length), f i = .int .i64 (pl[i] : Int)

theorem MS.count {w : World} {n : Nat} {wt : Nat → Nat} {pl : List Nat} {wr : World} (h : MS w n wt pl wr) (m x : Nat) : MS w n (fun i => if i = m then x else wt i) pl (wr.setCell ⟨w.heap.size, m, none⟩ (.int .i64 (x : Int))) := by
  obtain ⟨f, r, hf⟩ := h.rr
  exact ⟨MBut.setNew h.but (Nat.le_refl _) _ _, by simpa [World.setCell] using h.size, cnts_set h.rc m x, h.rp.setOther (by simp) _, ⟨f, r.setOther (by simp) _, hf⟩⟩

theorem MS.place {w : World} {n : Nat} {wt : Nat → Nat} {pl : List Nat} {wr w2 : World} (h : MS w n wt pl wr) (q : Nat) {f : Nat → Value} (hf : ∀ i (h : i < pl.length), f i = .int .i64 (pl[i] : Int))
    (hb : But [w.heap.size + 2] (wr.setCell ⟨w.heap.size + 1, q, none⟩ (.bool true)) w2) (hr : w2.rowIs (w.heap.size + 2) 3 n (fun i => if i = pl.length then .int .i64 q else f i)) : MS w n wt (pl ++ [q]) w2 := by
  have hs := h.size
  have hsz : (wr.setCell ⟨w.heap.size + 1, q, none⟩ (.bool true)).heap.size = wr.heap.size := by simp [World.setCell]
  have hs2 := hb.size
  rw [hsz] at hs2
  refine ⟨MBut.join (MBut.setNew h.but (Nat.le_succ _) q (.bool true)) hb (by omega), by omega, ?_, ?_, ⟨_, hr, ?_⟩⟩
  · exact (h.rc.setOther (by simp) _).of_block (hb.block w.heap.size (by rw [hsz]; omega) (by simp))
  · refine ((h.rp.set q (.bool true)).of_block (hb.block (w.heap.size + 1) (by rw [hsz]; omega) (by simp))).congr ?_
    intro i _
    by_cases e : i = q <;> simp [e]
  · intro i hi
    simp at hi
    by_cases e : i = pl.length
    · subst e; simp
    · rw [List.getElem_append_left (by omega)]
      simp only [if_neg e]
      exact hf i (by omega)

theorem wp_roomS {ops : Array Oper} {rest : List Oper} {o : Oper} {a : Act} {Q : Exit → Act → World → Prop} (w : World) (hgd : o.guard = none) (s x : Operand)
    (ho : o.op = Op.call { callee := Callee.builtin Builtin.append, args := #[s, x], argTypes := #[34, 34] }) (g l cap : Nat) (f : Nat → Value) (row : w.rowIs g 3 cap f) (hl : l < cap)
    (z : Int) (cs : Array Value) (hc : cs = #[.int .i64 z]) (S : Nat) (hS : S = w.heap.size) (hs : a.eval s = .slice (some ⟨g, 0, none⟩) l cap) (hx : a.eval x = .slice (some ⟨S, 0, none⟩) 1 1)
    (h : ∀ w', w'.rowIs g 3 cap (fun i => if i = l then .int .i64 z else f i) → But [g] w w' → wpList Yba.prog ops Q rest (a.put o.dst (.slice (some ⟨g, 0, none⟩) (l + 1) cap)) w') : wpList Yba.prog ops Q (o :: rest) a (w.alloc (.cells cs 3)) := by
  subst hS
  exact wp_room w hgd s x ho g l cap f row hl z cs hc hs hx h

set_option maxRecDepth 100000 in
set_option maxHeartbeats 4000000 in
theorem model_any {bo n A : Nat} {rows : Nat → List Nat} (w : World) (hn : n ≤ 255) (ho : Out w bo n A rows) (hA : A ≤ w.heap.size) :
    Calls Yba.prog 12 #[.int .i64 n, .slice (some ⟨bo, 0, none⟩) n n] w fun e w' => ∃ br, e = .returned (.tuple #[.slice (some ⟨br, 0, none⟩) (run rows n n []).length n, .bool (decide ((run rows n n []).length = n))]) ∧ But [] w w' ∧
      ∃ f, w'.rowIs br 3 n f ∧ ∀ i (h : i < (run rows n n []).length), f i = .int .i64 (((run rows n n [])[i] : Nat) : Int) := by
  have hmk3 := run_make_row' (P := Yba.prog) 34 3 (.int .i64 0) 8 Yba.underlying34 info3 rfl .i64 .i64 n (by omega) (by omega)
  have hmk4 := run_make_row' (P := Yba.prog) 50 4 (.bool false) 1 Yba.underlying50 info4 rfl .i64 .i64 n (by omega) (by omega)
  have hmk0 := run_make_room n hn
  obtain ⟨ad, cp, ro, rq⟩ := ho.row
  have hlen := ho.len
  have hent := ho.ent
  have rowsAt : ∀ wr, But [] w wr → wr.rowIs bo 34 n (fun a => .slice (ad a) (rows a).length (cp a)) ∧ ∀ a, a < n → ∀ q (h : q < (rows a).length), ∃ b, ad a = some ⟨b, 0, none⟩ ∧ wr.cell? ⟨b, q, none⟩ = some (.int .i64 ((rows a)[q] : Int)) := by
    intro wr hb
    refine ⟨ro.of_block (hb.block bo ro.lt (by simp)), fun a ha q hq => ?_⟩
    obtain ⟨b, e1, e2, e3⟩ := (rq a ha).2.2 q hq
    exact ⟨b, e1, (World.cell?_of_block (w := w) (hb.block b (by omega) (by simp))).trans e3⟩
  have caps : ∀ a, a < n → (rows a).length ≤ cp a ∧ cp a ≤ 9223372036854775807 := fun a ha => ⟨(rq a ha).1, (rq a ha).2.1⟩
  have h0 : KRel w n rows 0 0 (w.alloc (.cells (madeCells #[.int .i64 0] n) 3)) := ⟨(But.refl _ _).alloc _, by simp, fun _ => 0, (World.rowIs_made w (.int .i64 0) n 3).congr (fun _ _ => rfl), Cnt.start (fun _ _ => rfl)⟩
  have hbo : bo < w.heap.size := ro.lt
  clear ho ro rq
  go_enter Yba.func12, Yba.ntmps12
  go_wp2_with fail
  go_loopw [22] (fun i wr => ∃ k : Nat, k ≤ n ∧ i = .int .i64 k ∧ KRel w n rows k 0 wr) (fun i _ => n - (intOf i).toNat)
  case atStart => exact ⟨0, Nat.zero_le _, rfl, h0⟩
  case round =>
    obtain ⟨k, hk, rfl, R⟩ := hrel
    clear h0
    by_cases hlt : k < n
    · have c0 := (rowsAt _ R.but).1.cell hlt
      obtain ⟨cp1, cp2⟩ := caps k hlt
      have hl := hlen k hlt
      have hen := hent k hlt
      have hlens : ∀ a, a < k → (rows a).length ≤ 1024 := fun a ha => hlen a (by omega)
      have rAt := fun wr hb => (rowsAt wr hb).2 k hlt
      have hlti : (k : Int) < n := by omega
      clear rowsAt caps hlen hent hmk3 hmk4 hmk0
      go_wp2_with fail
      go_loopw [28] (fun i wr => ∃ j : Nat, j ≤ (rows k).length ∧ i = .int .i64 j ∧ KRel w n rows k j wr) (fun i _ => (rows k).length - (intOf i).toNat)
      case atStart => exact ⟨0, Nat.zero_le _, rfl, R⟩
      case round =>
        obtain ⟨j, hj, rfl, R2⟩ := hrel
        clear R c0
        by_cases hjl : j < (rows k).length
        · obtain ⟨b, eb, cb⟩ := rAt _ R2.but j hjl
          obtain ⟨wt, o, C⟩ := R2.st
          have hm := hen j hjl
          have C' := C.step hjl
          have big := MCnt.bound C (by omega) hlens (by omega)
          rw [eb]
          have hjli : (j : Int) < ((rows k).length : Int) := by omega
          generalize hmm : (rows k)[j] = m at cb hm C'
          have bm := big m hm
          have cm := o.cell hm
          simp only [cnts] at cm
          have zm := o.frozen m
          have o' := cnts_set o m (wt m + 1)
          have R3 : KRel w n rows k (j + 1) (wr.setCell ⟨w.heap.size, m, none⟩ (.int .i64 ((wt m + 1 : Nat) : Int))) := by
            refine ⟨MBut.setNew R2.but (Nat.le_refl _) _ _, by simpa [World.setCell] using R2.size, _, o', ?_⟩
            have e : (fun i => if i = m then wt m + 1 else wt i) = (fun i => if i = m then wt i + 1 else wt i) := by
              funext i
              by_cases e : i = m <;> simp [e]
            rw [e]
            exact C'
          simp only [Int.natCast_add, Int.cast_ofNat_Int] at R3
          clear R2 o o' C C' big rAt hlens hmm hen
          go_wp2_with fail
          go_roundw
          case rel => exact ⟨j + 1, by omega, by go_num, R3⟩
          case measure => simp [intOf]; omega
        · obtain rfl : j = (rows k).length := by omega
          have R3 : KRel w n rows (k + 1) 0 wr := by
            obtain ⟨wt, o, C⟩ := R2.st
            exact ⟨R2.but, R2.size, wt, o, C.row⟩
          clear R2 rAt hlens hen
          go_wp2_with fail
          go_roundw
          case rel => exact ⟨k + 1, by omega, by go_num, R3⟩
          case measure => simp [intOf]; omega
    · obtain rfl : k = n := by omega
      obtain ⟨wt, o, C⟩ := R.st
      have hwt := C.end_
      have hsz := R.size
      have M0 : MS w k wt [] ((wr.alloc (.cells (madeCells #[.bool false] k) 4)).alloc (.cells (madeCells #[.int .i64 0] k) 3)) := by
        refine ⟨(R.but.alloc _).alloc _, by simp; omega, (o.alloc _).alloc _, ?_, ⟨_, rowIs_at (by simp; omega), fun i h => absurd h (by simp)⟩⟩
        refine World.rowIs.congr (World.rowIs.alloc (rowIs_at (by omega)) _) ?_
        intro i _; simp
      clear R C o
      have HM := (show Hid _ from M0)
      clear M0
      go_wp2_with fail
      try simp only [hsz]
      clear hmk3 hmk4 hmk0 hlt hk
      generalize ((wr.alloc (.cells (madeCells #[.bool false] k) 4)).alloc (.cells (madeCells #[.int .i64 0] k) 3)) = W0 at HM ⊢
      go_loopw [13, 12] (fun i o wx => ∃ (pl : List Nat) (wt : Nat → Nat), pl.length ≤ k ∧ i = .int .i64 pl.length ∧ o = .slice (some ⟨w.heap.size + 2, 0, none⟩) pl.length k ∧ MS w k wt pl wx ∧ (∀ i, i < k → wt i = deg rows pl k i) ∧ Way rows k (run rows k k []) pl) (fun i _ _ => k - (intOf i).toNat)
      case atStart => exact ⟨[], wt, by simp, by simp, by simp, HM.out, hwt, Way.start rows k⟩
      case round =>
        clear HM hwt hsz
        obtain ⟨pl, wt2, hpl, rfl, rfl, M, hwt2, way⟩ := hrel
        by_cases hlt : pl.length < k
        · have hlti : (pl.length : Int) < k := by omega
          have low0 : ∀ x, x < 0 → fre k pl wt2 x = false := fun x h => absurd h (by omega)
          have HH := (show Hid _ from (⟨M, hwt2, way⟩ : _ ∧ _ ∧ _))
          have rc := M.rc
          have rp := M.rp
          have big : ∀ i, i < k → wt2 i ≤ 1000000 := fun i hi => by
            rw [hwt2 i hi]
            have h1 := deg_le rows pl 1024 i k hlen
            have h2 : k * 1024 ≤ 255 * 1024 := Nat.mul_le_mul_right _ hn
            omega
          clear M hwt2 way
          go_wp2_with fail
          go_loopw [15, 14] (fun i p wx => ∃ x : Nat, x ≤ k ∧ i = .int .i64 x ∧ p = .int .i64 (-1) ∧ (∀ y, y < x → fre k pl wt2 y = false) ∧ wx = wr) (fun i _ _ => k - (intOf i).toNat)
          case atStart => exact ⟨0, Nat.zero_le _, rfl, rfl, low0, rfl⟩
          case round =>
            clear low0
            obtain ⟨x, hx, rfl, rfl, low, rfl⟩ := hrel
            by_cases hxk : x < k
            · have hxi : (x : Int) < k := by omega
              have cx := rc.cell hxk
              simp only [cnts] at cx
              have px := rp.cell hxk
              have bx := big x hxk
              by_cases hin : x ∈ pl
              · have low' : ∀ y, y < x + 1 → fre k pl wt2 y = false := by
                  intro y hy
                  by_cases e : y = x
                  · subst e; simp [fre, hin]
                  · exact low y (by omega)
                rw [decide_eq_true hin] at px
                clear low big rc rp rowsAt caps hin
                go_wp2_with fail
                go_roundw
                case rel => exact ⟨x + 1, by omega, by go_num, rfl, low', by trivial⟩
                case measure => simp [intOf]; omega
              · rw [decide_eq_false hin] at px
                by_cases hz : wt2 x = 0
                · obtain ⟨M, hwt2, way⟩ := HH.out
                  have hfx : fre k pl wt2 x = true := by simp [fre, hin, hxk, hz]
                  have hlow : IsLow (fre k pl (deg rows pl k)) k x := by
                    rw [← fre_congr hwt2]
                    exact ⟨hx, low, fun _ => hfx⟩
                  obtain ⟨_, way'⟩ := way.next hlow hxk
                  obtain ⟨f, r, hf⟩ := M.rr
                  have K : ∀ w2, But [w.heap.size + 2] (wr.setCell ⟨w.heap.size + 1, x, none⟩ (.bool true)) w2 → w2.rowIs (w.heap.size + 2) 3 k (fun i => if i = pl.length then .int .i64 x else f i) → MS w k wt2 (pl ++ [x]) w2 :=
                    fun w2 hb hr => M.place x hf hb hr
                  have r' := r.setOther (a := ⟨w.heap.size + 1, x, none⟩) (by simp) (.bool true)
                  have zp := rp.frozen x
                  obtain ⟨cp1, cp2⟩ := caps x hxk
                  have hl := hlen x hxk
                  have hen := hent x hxk
                  have P0 := Plc.start hwt2 hin hxk
                  have hnm := fun j (hj : j < (rows x).length) => Plc.not_mem way.ord (hlow.yes hxk) hj
                  have HW := (show Hid _ from way')
                  rw [hz] at cx
                  clear low hfx hlow way way' r rp rc hwt2 M HH
                  go_wp2_with (at_builtin; refine wp_roomS (wr.setCell ⟨w.heap.size + 1, x, none⟩ (.bool true)) rfl _ _ rfl (w.heap.size + 2) pl.length k f r' hlt (x : Int) _ rfl wr.heap.size (by simp [World.setCell]) rfl rfl ?_; intro w2 rf2 hb2; have M2 := K w2 hb2 rf2; have c0 := (rowsAt w2 M2.but).1.cell hxk; have HM2 := (show Hid _ from M2); clear rf2 hb2 M2)
                  have rAt := fun wr hb => (rowsAt wr hb).2 x hxk
                  have h0 : ∃ wt', MS w k wt' (pl ++ [x]) w2 ∧ Plc rows k pl x 0 wt' ∧ ∀ i, i < k → wt' i ≤ 1000000 := ⟨wt2, HM2.out, P0, big⟩
                  clear rowsAt caps K r' zp P0 HM2 c0 cx px hf hz big
                  go_loopw [82] (fun i wx => ∃ j : Nat, j ≤ (rows x).length ∧ i = .int .i64 j ∧ ∃ wt', MS w k wt' (pl ++ [x]) wx ∧ Plc rows k pl x j wt' ∧ ∀ i, i < k → wt' i ≤ 1000000) (fun i _ => (rows x).length - (intOf i).toNat)
                  case atStart => exact ⟨0, Nat.zero_le _, rfl, h0⟩
                  case round =>
                    obtain ⟨j, hj, rfl, wt', M, P, big⟩ := hrel
                    clear h0
                    by_cases hjl : j < (rows x).length
                    · obtain ⟨b, eb, cb⟩ := rAt _ M.but j hjl
                      have hm := hen j hjl
                      obtain ⟨g1, P'⟩ := P.step hjl hm
                      have big1 := big _ hm
                      rw [eb]
                      have hjli : (j : Int) < ((rows x).length : Int) := by omega
                      generalize hmm : (rows x)[j] = m at cb hm g1 P' big1
                      obtain ⟨y, hy⟩ : ∃ y, wt' m = y + 1 := ⟨wt' m - 1, by omega⟩
                      have M' := M.count m y
                      have c1 := M.rc.cell hm
                      simp only [cnts, hy] at c1
                      have zf := M.rc.frozen m
                      have ewt : (fun i => if i = m then wt' i - 1 else wt' i) = (fun i => if i = m then y else wt' i) := by
                        funext i
                        by_cases e : i = m
                        · simp [e, hy]
                        · simp [e]
                      rw [ewt] at P'
                      have big' : ∀ i, i < k → (if i = m then y else wt' i) ≤ 1000000 := by
                        intro i hi
                        split
                        · omega
                        · exact big i hi
                      have hyb : y ≤ 1000000 := by omega
                      have HS := (show Hid _ from (⟨M', P', big'⟩ : _ ∧ _ ∧ _))
                      clear M' P' big' M P big rAt hen hmm ewt g1 hy hnm
                      go_wp2_with fail
                      go_roundw
                      case rel => exact ⟨j + 1, by omega, by go_num, _, HS.out⟩
                      case measure => simp [intOf]; omega
                    · obtain rfl : j = (rows x).length := by omega
                      have HS := (show Hid _ from (⟨M, P.end_⟩ : _ ∧ _))
                      clear M P big rAt hen hnm
                      go_wp2_with fail
                      go_roundw
                      case rel => exact ⟨pl ++ [x], wt', by simp; omega, by simp, by simp, HS.out.1, HS.out.2, HW.out⟩
                      case measure => simp [intOf]; omega
                · have low' : ∀ y, y < x + 1 → fre k pl wt2 y = false := by
                    intro y hy
                    by_cases e : y = x
                    · subst e; simp [fre, hz]
                    · exact low y (by omega)
                  have hzi : ¬ ((wt2 x : Nat) : Int) = 0 := by omega
                  have hzd : decide (((wt2 x : Nat) : Int) = 0) = false := decide_eq_false hzi
                  clear low big rc rp rowsAt caps hin
                  go_wp2_with fail
                  go_roundw
                  case rel => exact ⟨x + 1, by omega, by go_num, rfl, low', by trivial⟩
                  case measure => simp [intOf]; omega
            · obtain rfl : x = k := by omega
              have HS := (show Hid _ from low)
              clear low big rc rp rowsAt caps
              go_wp2_with fail
              refine bodyPost_ret (results_tmp2 rfl _ _ _) rfl ?_
              obtain ⟨M, hwt2, way⟩ := HH.out
              obtain ⟨f, r, hf⟩ := M.rr
              have hlow : IsLow (fre x pl (deg rows pl x)) x x := by
                rw [← fre_congr hwt2]
                exact ⟨Nat.le_refl _, HS.out, fun h => absurd h (by omega)⟩
              have hT := way.stop hlow
              refine ⟨w.heap.size + 2, ?_, M.but, f, r, ?_⟩
              · rw [hT]
                have : ¬ pl.length = x := by omega
                simp [this]
              · intro i hi
                simp only [hT]
                exact hf i (by rw [hT] at hi; exact hi)
        · have hpk : pl.length = k := by omega
          have HS := (show Hid _ from (⟨M, way, hpk⟩ : _ ∧ _ ∧ _))
          have hlti : ¬ (pl.length : Int) < k := by omega
          clear M way hwt2 rowsAt caps hpk
          go_wp2_with fail
          refine bodyPost_ret (results_tmp2 rfl _ _ _) rfl ?_
          obtain ⟨M, way, hpk⟩ := HS.out
          obtain ⟨f, r, hf⟩ := M.rr
          have hT := way.full hpk
          refine ⟨w.heap.size + 2, ?_, M.but, f, r, ?_⟩
          · rw [hT, hpk]; simp
          · intro i hi
            simp only [hT]
            exact hf i (by rw [hT] at hi; exact hi)
end Go.Proofs.Ybulkblde
