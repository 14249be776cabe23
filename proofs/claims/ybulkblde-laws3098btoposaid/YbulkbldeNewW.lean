/-
  NewOrderWalk: the counts, the free nodes.
-/
import Derived.Test.YbulkbldeOw
namespace Go.Proofs.Ybulkblde
open Go.RowKit

theorem But.setNew {S : List Nat} {a b : World} (h : But S a b) {g : Nat} (hg : a.heap.size ≤ g) (i : Nat) (v : Value) : But S a (b.setCell ⟨g, i, none⟩ v) :=
  ⟨h.os, h.tape, h.output, by simpa [World.setCell] using h.size, fun k hk hn => (Below.heap_setCell _ _ _ _ (by show k ≠ g; omega)).trans (h.block k hk hn)⟩
theorem But.join {a b c : World} {g : Nat} (h : But [] a b) (k : But [g] b c) (hg : a.heap.size ≤ g) : But [] a c :=
  ⟨k.os.trans h.os, k.tape.trans h.tape, k.output.trans h.output, Nat.le_trans h.size k.size, fun j hj hn => (k.block j (by have := h.size; omega) (by simp; omega)).trans (h.block j hj hn)⟩

theorem OW.mono {w : World} {bo n A B : Nat} {bw bt bc bh br : Nat} {F : Nat → Bool} {wt : Nat → Nat} {pl : List Nat} (h : OW w bo n B bw bt bc bh br F wt pl) (hA : A ≤ B) : OW w bo n A bw bt bc bh br F wt pl :=
  { h with lw := Nat.le_trans hA h.lw, lt := Nat.le_trans hA h.lt, lc := Nat.le_trans hA h.lc, lh := Nat.le_trans hA h.lh, lr := Nat.le_trans hA h.lr }

theorem OW.counts {w : World} {bo n A : Nat} {bw bt bc bh br : Nat} {F : Nat → Bool} {wt wt' : Nat → Nat} {pl : List Nat} (h : OW w bo n A bw bt bc bh br F wt pl) (e : ∀ i, i < n → wt i = wt' i) : OW w bo n A bw bt bc bh br F wt' pl :=
  { h with rc := h.rc.congr (fun i hi => by rw [e i hi]) }

theorem OW.free {w : World} {bo n A : Nat} {bw bt bc bh br : Nat} {F F' : Nat → Bool} {wt : Nat → Nat} {pl : List Nat} (h : OW w bo n A bw bt bc bh br F wt pl) (e : F = F') : OW w bo n A bw bt bc bh br F' wt pl := e ▸ h

theorem Cnt.bound {rows : Nat → List Nat} {n k j : Nat} {wt : Nat → Nat} (h : Cnt rows n k j wt) (hk : k ≤ 255) (hl : ∀ a, a < k → (rows a).length ≤ 1024) (hj : j ≤ 1024) : ∀ i, i < n → wt i ≤ 1000000 := by
  intro i hi
  have h1 := deg_le rows [] 1024 i k hl
  have h2 : k * 1024 ≤ 255 * 1024 := Nat.mul_le_mul_right _ hk
  have h3 : ((rows k).take j).count i ≤ j := Nat.le_trans List.count_le_length (by simp; omega)
  have := h.val i hi
  omega

/-- after k rows and j edges of row k -/
structure NRel (w : World) (bo n : Nat) (bw bt bc bh br : Nat) (rows : Nat → List Nat) (k j : Nat) (wr : World) : Prop where
  but : But [] w wr
  st : ∃ wt, OW wr bo n w.heap.size bw bt bc bh br (fun _ => false) wt [] ∧ Cnt rows n k j wt

/-- the free nodes among the first k -/
def freTo (n : Nat) (wt : Nat → Nat) (k : Nat) : Nat → Bool := fun i => decide (i < k) && fre n [] wt i
theorem freTo_zero (n : Nat) (wt : Nat → Nat) : freTo n wt 0 = fun _ => false := by funext i; simp [freTo]
theorem freTo_end (n : Nat) (wt : Nat → Nat) : freTo n wt n = fre n [] wt := by
  funext i
  unfold freTo fre
  by_cases h : i < n <;> simp [h]
theorem freTo_put (n : Nat) (wt : Nat → Nat) (k : Nat) (hk : k < n) (h : wt k = 0) : freTo n wt (k + 1) = put (freTo n wt k) k true := by
  funext i
  unfold freTo put fre
  by_cases e : i = k
  · subst e; simp [h, hk]
  · have : i < k + 1 ↔ i < k := by omega
    simp [e, this]
theorem freTo_keep (n : Nat) (wt : Nat → Nat) (k : Nat) (h : wt k ≠ 0) : freTo n wt (k + 1) = freTo n wt k := by
  funext i
  unfold freTo fre
  by_cases e : i = k
  · subst e; simp [h]
  · have : i < k + 1 ↔ i < k := by omega
    simp [this]
theorem freTo_not (n : Nat) (wt : Nat → Nat) (k : Nat) : freTo n wt k k = false := by simp [freTo]

structure FRel (w : World) (bo n : Nat) (bw bt bc bh br : Nat) (wt : Nat → Nat) (k : Nat) (wr : World) : Prop where
  but : But [] w wr
  st : OW wr bo n w.heap.size bw bt bc bh br (freTo n wt k) wt []

set_option maxRecDepth 100000 in
set_option maxHeartbeats 4000000 in
theorem newWalk_any {bo n A : Nat} {rows : Nat → List Nat} (w : World) (hn : n ≤ 255) (ho : Out w bo n A rows) (hA : A ≤ w.heap.size) :
    Calls Yba.prog 21 #[.slice (some ⟨bo, 0, none⟩) n n, .nilIface] w fun e w' => ∃ bw bt bc bh br, e = .returned (.pointer (some ⟨bw, 0, none⟩)) ∧ But [] w w' ∧
      ∃ wt, OW w' bo n w.heap.size bw bt bc bh br (fre n [] wt) wt [] ∧ ∀ i, i < n → wt i = deg rows [] n i := by
  have hmk3 := run_make_row' (P := Yba.prog) 34 3 (.int .i64 0) 8 Yba.underlying34 info3 rfl .i64 .i64 n (by omega) (by omega)
  have hmk4 := run_make_row' (P := Yba.prog) 50 4 (.bool false) 1 Yba.underlying50 info4 rfl .i64 .i64 n (by omega) (by omega)
  have hmk0 := run_make_room n hn
  go_enter Yba.func21, Yba.ntmps21
  go_wp2_with fail
  go_cut [5] (fun s5 wx => ∃ bw bt bc bh br, s5 = .pointer (some ⟨bw, 0, none⟩) ∧ But [] w wx ∧ OW wx bo n w.heap.size bw bt bc bh br (fun _ => false) (fun _ => 0) [])
  case first =>
    go_region_with (go_at_call 29; refine (newNodeSet_any n _ hn).mono ?_; rintro e w' ⟨bt, rfl, g1, g2, g3⟩; unfold nsv)
    all_goals
      go_wp2_with fail
      go_meet
      case rel =>
        have gs := g3.size
        have gl := g2.lt
        simp at g1 gs
        refine ⟨_, bt, _, _, _, rfl, ?_, ow_new (heap_new (by simp <;> omega)) ?_ ?_ ?_ ?_ ?_ ?_⟩
        · repeat (first | exact But.refl _ _ | exact But.drew (But.refl _ _) | apply But.alloc | apply But.drew | refine But.trans ?_ g3)
        · repeat (first | exact g2 | apply World.rowIs.alloc)
        · repeat (first | (refine rowIs_at ?_; first | rfl | (simp <;> omega) ; done) | apply World.rowIs.alloc | refine rowIs_but g3 ?_ | apply World.rowIs.drew)
        · repeat (first | (refine rowIs_at ?_; first | rfl | (simp <;> omega) ; done) | apply World.rowIs.alloc | refine rowIs_but g3 ?_ | apply World.rowIs.drew)
        · repeat (first | (refine rowIs_at ?_; first | rfl | (simp <;> omega) ; done) | apply World.rowIs.alloc | refine rowIs_but g3 ?_ | apply World.rowIs.drew)
        · refine ⟨?_, ?_, ?_, ?_, ?_⟩ <;> omega
        · refine ⟨?_, ?_, ?_, ?_, ?_, ?_, ?_, ?_, ?_, ?_⟩ <;> omega
  case rest =>
    obtain ⟨bw, bt, bc, bh, br, rfl, hb0, o0⟩ := hcut
    clear hmk3 hmk4 hmk0
    have h0 : NRel w bo n bw bt bc bh br rows 0 0 wc := ⟨hb0, _, o0, Cnt.start (fun _ _ => rfl)⟩
    obtain ⟨ad, cp, ro, rq⟩ := ho.row
    have hlen := ho.len
    have hent := ho.ent
    have hboA := ho.lt
    have rowsAt : ∀ wr, But [] w wr → wr.rowIs bo 34 n (fun a => .slice (ad a) (rows a).length (cp a)) ∧ ∀ a, a < n → ∀ q (h : q < (rows a).length), ∃ b, ad a = some ⟨b, 0, none⟩ ∧ wr.cell? ⟨b, q, none⟩ = some (.int .i64 ((rows a)[q] : Int)) := by
      intro wr hb
      refine ⟨ro.of_block (hb.block bo ro.lt (by simp)), fun a ha q hq => ?_⟩
      obtain ⟨b, e1, e2, e3⟩ := (rq a ha).2.2 q hq
      exact ⟨b, e1, (World.cell?_of_block (w := w) (hb.block b (by omega) (by simp))).trans e3⟩
    have caps : ∀ a, a < n → (rows a).length ≤ cp a ∧ cp a ≤ 9223372036854775807 := fun a ha => ⟨(rq a ha).1, (rq a ha).2.1⟩
    clear ho ro rq hb0 o0
    go_wp2_with fail
    go_loopw [30] (fun i wr => ∃ k : Nat, k ≤ n ∧ i = .int .i64 k ∧ NRel w bo n bw bt bc bh br rows k 0 wr) (fun i _ => n - (intOf i).toNat)
    case atStart => exact ⟨0, Nat.zero_le _, rfl, h0⟩
    case round =>
      obtain ⟨k, hk, rfl, R⟩ := hrel
      clear h0
      by_cases hlt : k < n
      · have c0 := (rowsAt _ R.but).1.cell hlt
        obtain ⟨cp1, cp2⟩ := caps k hlt
        have hl := hlen k hlt
        have hen := hent k hlt
        have hlens : ∀ a, a < k → (rows a).length ≤ 1024 := fun a ha => hlen a (by omega)
        have rAt := fun wr hb => (rowsAt wr hb).2 k hlt
        have hlti : (k : Int) < n := by omega
        clear rowsAt caps hlen hent
        go_wp2_with fail
        go_loopw [36] (fun i wr => ∃ j : Nat, j ≤ (rows k).length ∧ i = .int .i64 j ∧ NRel w bo n bw bt bc bh br rows k j wr) (fun i _ => (rows k).length - (intOf i).toNat)
        case atStart => exact ⟨0, Nat.zero_le _, rfl, R⟩
        case round =>
          obtain ⟨j, hj, rfl, R2⟩ := hrel
          clear R c0
          by_cases hjl : j < (rows k).length
          · obtain ⟨b, eb, cb⟩ := rAt _ R2.but j hjl
            obtain ⟨wt, o, C⟩ := R2.st
            have hm := hen j hjl
            have C' := C.step hjl
            have big := C.bound (by omega) hlens (by omega)
            rw [eb]
            have hjli : (j : Int) < ((rows k).length : Int) := by omega
            generalize hmm : (rows k)[j] = m at cb hm C'
            have bm := big m hm
            have c2 := o.c2
            have cm := o.rc.cell hm
            have zm := o.rc.frozen m
            have o' := o.count m (wt m + 1)
            have R3 : NRel w bo n bw bt bc bh br rows k (j + 1) (wr.setCell ⟨bc, m, none⟩ (.int .i64 ((wt m + 1 : Nat) : Int))) := by
              refine ⟨R2.but.setNew o.lc _ _, _, o', ?_⟩
              have e : (fun i => if i = m then wt m + 1 else wt i) = (fun i => if i = m then wt i + 1 else wt i) := by
                funext i
                by_cases e : i = m <;> simp [e]
              rw [e]
              exact C'
            simp only [Int.natCast_add, Int.cast_ofNat_Int] at R3
            clear R2 o o' C C' big rAt hlens hmm hen
            go_wp2_with fail
            go_roundw
            case rel => exact ⟨j + 1, by omega, by go_num, R3⟩
            case measure => simp [intOf]; omega
          · obtain rfl : j = (rows k).length := by omega
            have R3 : NRel w bo n bw bt bc bh br rows (k + 1) 0 wr := by
              obtain ⟨wt, o, C⟩ := R2.st
              exact ⟨R2.but, wt, o, C.row⟩
            clear R2 rAt hlens hen
            go_wp2_with fail
            go_roundw
            case rel => exact ⟨k + 1, by omega, by go_num, R3⟩
            case measure => simp [intOf]; omega
      · obtain rfl : k = n := by omega
        obtain ⟨wt, o, C⟩ := R.st
        have hwt := C.end_
        have big := C.bound (by omega) (fun a ha => hlen a ha) (by omega)
        have hb := R.but
        have c2 := o.c2
        have h0 : FRel w bo k bw bt bc bh br wt 0 wr := ⟨hb, o.free (freTo_zero k wt).symm⟩
        clear rowsAt caps hlen hent R C o hb
        go_wp2_with fail
        go_loopw [56] (fun i wr => ∃ j : Nat, j ≤ k ∧ i = .int .i64 j ∧ FRel w bo k bw bt bc bh br wt j wr) (fun i _ => k - (intOf i).toNat)
        case atStart => exact ⟨0, Nat.zero_le _, rfl, h0⟩
        case round =>
          obtain ⟨j, hj, rfl, R⟩ := hrel
          clear h0 c2
          by_cases hjl : j < k
          · have o := R.st
            have cj := o.rc.cell hjl
            have bj := big j hjl
            have c4 := o.c4
            have c5 := o.c5
            have hjli : (j : Int) < (k : Int) := by omega
            by_cases hz : wt j = 0
            · obtain ⟨t, r, hF⟩ := o.rt
              have N := change_any bt k (stp (Lib.bitLen k)) t (freTo k wt j) j true 1 rfl wr hn hjl hF (freTo_not k wt j) r
              unfold nsv at N
              rw [hz] at cj
              have HS := (show Hid _ from (⟨R, hz⟩ : _ ∧ _))
              clear R o r hF hz hwt
              go_wp2_with fail
              refine N.mono ?_
              rintro e w3 ⟨rfl, hb3, hr3⟩
              obtain ⟨R, hz⟩ := HS.out
              rw [← freTo_put k wt j hjl hz] at hr3
              have R' : FRel w bo k bw bt bc bh br wt (j + 1) w3 := ⟨R.but.join hb3 R.st.lt, R.st.tree hb3 hr3⟩
              clear R HS hb3 hr3 N hz
              go_wp2_with fail
              go_roundw
              case rel => exact ⟨j + 1, by omega, by go_num, R'⟩
              case measure => simp [intOf]; omega
            · have R' : FRel w bo k bw bt bc bh br wt (j + 1) wr := ⟨R.but, o.free (freTo_keep k wt j hz).symm⟩
              have hzi : ¬ ((wt j : Nat) : Int) = 0 := by omega
              clear R o hwt
              go_wp2_with fail
              go_roundw
              case rel => exact ⟨j + 1, by omega, by go_num, R'⟩
              case measure => simp [intOf]; omega
          · obtain rfl : j = k := by omega
            have HS := (show Hid _ from (⟨R.but, R.st.free (freTo_end j wt), hwt⟩ : _ ∧ _ ∧ _))
            clear R hwt big
            go_wp2_with fail
            go_ret
            obtain ⟨b1, o, pe⟩ := HS.out
            exact ⟨bw, bt, bc, bh, br, rfl, b1, wt, o, pe⟩
end Go.Proofs.Ybulkblde
