/-
  CONTRACTS of the generation's small methods: item, at, twoSteps.
-/
import Derived.Test.YbulkbldePcg
import Derived.Test.YbulkbldeBase2
import Derived.Deep.RegionHeld3
import Derived.Deep.DrawnRows
namespace Go.Proofs.Ybulkblde
open Go.RowKit
attribute [local go_sem ↓] Go.wp_at_zero Go.wp_at_succ

/-- The generation's struct at block bg. -/
structure Gs (w : World) (bg bp bst bpm n k m tot : Nat) : Prop where
  c0 : w.cell? ⟨bg, 0, none⟩ = some (.pointer (some ⟨bp, 0, none⟩))
  c1 : w.cell? ⟨bg, 1, none⟩ = some (.int .i64 n)
  c2 : w.cell? ⟨bg, 2, none⟩ = some (.int .i64 k)
  c3 : w.cell? ⟨bg, 3, none⟩ = some (.int .i64 m)
  c4 : w.cell? ⟨bg, 4, none⟩ = some (.slice (some ⟨bst, 0, none⟩) tot tot)
  c5 : w.cell? ⟨bg, 5, none⟩ = some (.slice (some ⟨bpm, 0, none⟩) n n)

theorem Gs.of_block {w w' : World} {bg bp bst bpm n k m tot : Nat} (h : Gs w bg bp bst bpm n k m tot) (e : w'.heap[bg]? = w.heap[bg]?) : Gs w' bg bp bst bpm n k m tot := by
  have hc : ∀ o, w'.cell? ⟨bg, o, none⟩ = w.cell? ⟨bg, o, none⟩ := fun o => World.cell?_of_block (w := w) e
  exact ⟨by rw [hc]; exact h.c0, by rw [hc]; exact h.c1, by rw [hc]; exact h.c2, by rw [hc]; exact h.c3, by rw [hc]; exact h.c4, by rw [hc]; exact h.c5⟩

/-- The item number r, as the program cuts it. -/
def itm (r : Nat) : ByteArray := (⟨#[65, 66, 67, 68, 69, 70, 71, 72, 73, 74, 75, 76, 77, 78, 79, 80, 81, 82, 83, 84, 85, 86, 87, 88, 89, 90]⟩ : ByteArray).extract r (r + 1)

set_option maxRecDepth 100000 in
set_option maxHeartbeats 1000000 in
theorem item_any (bg bp m : Nat) (hm : 1 ≤ m) (hm' : m ≤ 26) (w : World) (h0 : w.cell? ⟨bg, 0, none⟩ = some (.pointer (some ⟨bp, 0, none⟩))) (h3 : w.cell? ⟨bg, 3, none⟩ = some (.int .i64 m)) (hne : bg ≠ bp) (hg : Gen bp w) :
    Calls Yba.prog 15 #[.pointer (some ⟨bg, 0, none⟩)] w fun e w' => (∃ r : Nat, r < m ∧ e = .returned (.string (itm r))) ∧ Rnd bp w w' := by
  go_enter Yba.func15, Yba.ntmps15
  go_wp2_with fail
  refine (intN_any bg bp m hm (by omega) _ h0 hne hg).mono ?_
  rintro e w' ⟨⟨r, hr, rfl⟩, R⟩
  have hr26 : (r : Int) < 26 := by omega
  go_wp2_with fail
  go_ret
  exact ⟨⟨r, hr, rfl⟩, R⟩

theorem id_wrap (t k j : Nat) (ht : t < 16) (hj : j < 17) (hk : k ≤ 16) : IntKind.i64.wrap (IntKind.i64.wrap ((t : Int) * (k : Int)) + (j : Int)) = ((t * k + j : Nat) : Int) := by
  have h1 : t * k ≤ 16 * 16 := Nat.mul_le_mul (by omega) hk
  rw [← Int.natCast_mul]
  generalize t * k = x at *
  rw [IntKind.wrap_i64, IntKind.wrap_i64]
  omega

theorem id_lt {t n k j : Nat} (ht : t < n) (hj : j < k) : t * k + j < n * k := by
  have h1 : (t + 1) * k ≤ n * k := Nat.mul_le_mul_right k (by omega)
  rw [Nat.add_mul] at h1
  omega

set_option maxRecDepth 100000 in
set_option maxHeartbeats 1000000 in
theorem at_any (bg bp bst bpm n k m tot t j id : Nat) (ht : t < 16) (hj : j < 16) (hk : k ≤ 16) (hid : id = t * k + j) (hlt : id < tot) (_htot : tot ≤ 256) (w : World) (h : Gs w bg bp bst bpm n k m tot) :
    Calls Yba.prog 17 #[.pointer (some ⟨bg, 0, none⟩), .int .i64 t, .int .i64 j] w fun e w' => e = .returned (.pointer (some ⟨bst, id * 3, none⟩)) ∧ ∃ q, w' = w.drewN q := by
  obtain ⟨c0, c1, c2, c3, c4, c5⟩ := h
  have e := id_wrap t k j ht (by omega) hk
  rw [← hid] at e
  clear hid
  go_enter Yba.func17, Yba.ntmps17
  go_wp2_with fail
  go_quiet (fail)
  go_wp2_with fail
  go_ret
  exact ⟨rfl, _, rfl⟩

/-- intN at a number that is spelt otherwise. -/
theorem intN_z (bg bp : Nat) (z : Int) (h1 : 1 ≤ z) (h2 : z ≤ 1000000) (w : World) (h0 : w.cell? ⟨bg, 0, none⟩ = some (.pointer (some ⟨bp, 0, none⟩))) (hne : bg ≠ bp) (hg : Gen bp w) :
    Calls Yba.prog 14 #[.pointer (some ⟨bg, 0, none⟩), .int .i64 z] w fun e w' => (∃ r : Nat, (r : Int) < z ∧ e = .returned (.int .i64 r)) ∧ Rnd bp w w' := by
  obtain ⟨n, rfl⟩ := Int.eq_ofNat_of_zero_le (show 0 ≤ z by omega)
  refine (intN_any bg bp n (by omega) (by omega) w h0 hne hg).mono ?_
  rintro e w' ⟨⟨r, hr, rfl⟩, R⟩
  exact ⟨⟨r, by omega, rfl⟩, R⟩

set_option maxRecDepth 100000 in
set_option maxHeartbeats 1000000 in
theorem twoSteps_any (bg bp k : Nat) (hk : 2 ≤ k) (hk' : k ≤ 16) (w : World) (h0 : w.cell? ⟨bg, 0, none⟩ = some (.pointer (some ⟨bp, 0, none⟩))) (h2 : w.cell? ⟨bg, 2, none⟩ = some (.int .i64 k)) (hne : bg ≠ bp) (hg : Gen bp w) :
    Calls Yba.prog 16 #[.pointer (some ⟨bg, 0, none⟩)] w fun e w' => (∃ f s : Nat, f < s ∧ s < k ∧ e = .returned (.tuple #[.int .i64 f, .int .i64 s])) ∧ Rnd bp w w' := by
  obtain ⟨k1, hk1, e1⟩ : ∃ k1 : Nat, k1 + 1 = k ∧ IntKind.i64.wrap ((k : Int) - 1) = (k1 : Int) := ⟨k - 1, by omega, by rw [IntKind.wrap_i64]; omega⟩
  have HK : Hid (k1 + 1 = k) := hk1
  clear hk1
  go_enter Yba.func16, Yba.ntmps16
  go_wp2_with fail
  go_region_held3 (fun w' => w'.cell? ⟨bg, 2, none⟩ = some (.int .i64 k))
    (first | exact h2 | exact (R1.cell hne 2).trans h2 | exact (R2.cell hne 2).trans ((R1.cell hne 2).trans h2))
    (first | (go_at_call_of 14 (Value.int .i64 (k : Int)); refine (intN_z bg bp _ ?_ ?_ _ ?_ hne ?_).mono ?_; (· omega); (· omega); (· exact h0); (· exact hg); (rintro e w1 ⟨⟨r1, hr1, rfl⟩, R1⟩)) | (go_at_call_of 14 (Value.int .i64 (k1 : Int)); refine (intN_z bg bp _ ?_ ?_ _ ?_ hne ?_).mono ?_; (· have := HK.out; omega); (· have := HK.out; omega); (· exact (R1.cell hne 0).trans h0); (· exact R1.gen); (rintro e w2 ⟨⟨r2, hr2, rfl⟩, R2⟩)))
  have hk1 := HK.out
  have R' : Rnd bp w w2 := Rnd.trans ⟨R1.os, R1.tape, R1.output, R1.size, R1.block, R1.gen⟩ R2
  go_wp2_with fail
  · go_ret2
    exact ⟨⟨r1, r2 + 1, by omega, by omega, rfl⟩, R'⟩
  · go_ret2
    exact ⟨⟨r2, r1, by omega, by omega, rfl⟩, R'⟩

/-- Row f with d numbers from base on laid from place l on. -/
def app (f : Nat → Value) (l base d : Nat) : Nat → Value := fun i => if i < l then f i else if i < l + d then .int .i64 ((base + (i - l) : Nat) : Int) else f i

/-- What 'appendSteps' has appended after d steps. -/
structure ARel (w : World) (bi cap l base d : Nat) (f : Nat → Value) (wr : World) : Prop where
  gr : w.grownBy wr (some bi)
  row : wr.rowIs bi 3 cap (app f l base d)

theorem ARel.alloc {w : World} {bi cap l base d : Nat} {f : Nat → Value} {wr : World} (h : ARel w bi cap l base d f wr) (o : Obj) : ARel w bi cap l base d f (wr.alloc o) :=
  ⟨grownBy_trans h.gr (World.grownBy_alloc _ _ _), h.row.alloc o⟩

theorem ARel.step {w : World} {bi cap l base d : Nat} {f : Nat → Value} {wr : World} (h : ARel w bi cap l base d f wr) (z : Int) (hz : z = ((base + d : Nat) : Int)) :
    ARel w bi cap l base (d + 1) f (wr.setCell ⟨bi, l + d, none⟩ (.int .i64 z)) := by
  subst hz
  refine ⟨grownBy_trans h.gr ⟨rfl, rfl, rfl, by simp [World.setCell], fun b _ hne => Below.heap_setCell _ _ _ _ (fun e => hne (by rw [e]))⟩, (h.row.set _ _).congr ?_⟩
  intro i hi
  unfold app
  by_cases e1 : i = l + d
  · subst e1
    simp [show ¬ l + d < l by omega, show l + d < l + (d + 1) by omega]
  · by_cases e2 : i < l
    · simp [e1, e2]
    · by_cases e3 : i < l + d
      · simp [e1, e2, e3, show i < l + (d + 1) by omega]
      · simp [e1, e2, e3, show ¬ i < l + (d + 1) by omega]

theorem id_wrap' (t k j : Nat) (x : Nat) (hx : x = t * k) (ht : t < 16) (hj : j < 17) (hk : k ≤ 16) : IntKind.i64.wrap ((t : Int) * (k : Int)) = (x : Int) ∧ x + j ≤ 256 + 16 := by
  have h1 : t * k ≤ 15 * 16 := Nat.mul_le_mul (by omega) hk
  subst hx
  rw [← Int.natCast_mul]
  generalize t * k = x at *
  rw [IntKind.wrap_i64]
  omega

set_option maxRecDepth 100000 in
set_option maxHeartbeats 1000000 in
theorem appendSteps_any (bg bi cap l t k fr to : Nat) (f : Nat → Value) (ht : t < 16) (hk : k ≤ 16) (hto : to ≤ k) (hfr : fr ≤ to) (hcap : l + (to - fr) ≤ cap) (hcap' : cap ≤ 256) (w : World)
    (c2 : w.cell? ⟨bg, 2, none⟩ = some (.int .i64 k)) (row : w.rowIs bi 3 cap f) (hne : bg ≠ bi) :
    Calls Yba.prog 20 #[.pointer (some ⟨bg, 0, none⟩), .slice (some ⟨bi, 0, none⟩) l cap, .int .i64 t, .int .i64 fr, .int .i64 to] w fun e w' =>
      e = .returned (.slice (some ⟨bi, 0, none⟩) (l + (to - fr)) cap) ∧ ARel w bi cap l (t * k + fr) (to - fr) f w' := by
  obtain ⟨x, hx⟩ : ∃ x, x = t * k := ⟨_, rfl⟩
  have hxw := (id_wrap' t k 0 x hx ht (by omega) hk).1
  have hxb := (id_wrap' t k 0 x hx ht (by omega) hk).2
  have R0 : ARel w bi cap l (x + fr) 0 f w := ⟨World.grownBy.refl _ _, row.congr (fun i _ => by unfold app; by_cases e : i < l <;> simp [e])⟩
  rw [← hx]
  clear hx
  go_enter Yba.func20, Yba.ntmps20
  go_wp2_with fail
  go_loopw [1, 11] (fun s j wr => ∃ d : Nat, d ≤ to - fr ∧ j = .int .i64 ((fr + d : Nat) : Int) ∧ s = .slice (some ⟨bi, 0, none⟩) (l + d) cap ∧ ARel w bi cap l (x + fr) d f wr) (fun _ j _ => to - (intOf j).toNat)
  case atStart => exact ⟨0, Nat.zero_le _, by simp, rfl, R0⟩
  case round =>
    obtain ⟨d, hd, rfl, rfl, R⟩ := hrel
    have cg : wr.cell? ⟨bg, 2, none⟩ = some (.int .i64 k) := (World.cell?_of_block (w := w) (R.gr.block bg (cell_lt c2) (by simpa using hne))).trans c2
    clear R0
    by_cases hlt : fr + d < to
    · have R2 := R.alloc (.cells #[.int .i64 ((x : Int) + ((fr : Int) + (d : Int)))] 3)
      have r1 := R2.row.frozen (l + d)
      obtain ⟨v, r2⟩ : ∃ v, (wr.alloc (.cells #[.int .i64 ((x : Int) + ((fr : Int) + (d : Int)))] 3)).cell? ⟨bi, l + d, none⟩ = some v := ⟨_, R2.row.cell (by omega)⟩
      have R3 := R2.step ((x : Int) + ((fr : Int) + (d : Int))) (by omega)
      clear row c2 R R2
      go_wp2_with fail
      go_roundw
      case rel => exact ⟨d + 1, by omega, by go_num, rfl, R3⟩
      case measure => simp [intOf]; omega
    · obtain rfl : d = to - fr := by omega
      clear row c2 cg
      go_wp2_with fail
      go_ret
      exact ⟨rfl, R⟩

/-- The four variables that the closure holds. -/
structure Cap (w : World) (b1 b2 b3 b4 bg wt rt first : Nat) : Prop where
  v1 : w.cell? ⟨b1, 0, none⟩ = some (.pointer (some ⟨bg, 0, none⟩))
  v2 : w.cell? ⟨b2, 0, none⟩ = some (.int .i64 wt)
  v3 : w.cell? ⟨b3, 0, none⟩ = some (.int .i64 first)
  v4 : w.cell? ⟨b4, 0, none⟩ = some (.int .i64 rt)

theorem Cap.grown {w w' : World} {b1 b2 b3 b4 bg wt rt first bi : Nat} (h : Cap w b1 b2 b3 b4 bg wt rt first) (hg : w.grownBy w' (some bi)) (n1 : b1 ≠ bi) (n2 : b2 ≠ bi) (n3 : b3 ≠ bi) (n4 : b4 ≠ bi) : Cap w' b1 b2 b3 b4 bg wt rt first :=
  ⟨hg.cell h.v1 (by simpa using n1), hg.cell h.v2 (by simpa using n2), hg.cell h.v3 (by simpa using n3), hg.cell h.v4 (by simpa using n4)⟩

set_option maxRecDepth 100000 in
set_option maxHeartbeats 2000000 in
theorem core_any (bg bi cap l k wt rt first b1 b2 b3 b4 : Nat) (f : Nat → Value) (hw : wt < 16) (hr : rt < 16) (hk : k ≤ 16) (hf : first < k) (hcap : l + 2 * k ≤ cap) (hcap' : cap ≤ 256) (w : World)
    (c2 : w.cell? ⟨bg, 2, none⟩ = some (.int .i64 k)) (hC : Cap w b1 b2 b3 b4 bg wt rt first) (row : w.rowIs bi 3 cap f) (hne : bg ≠ bi) (n1 : b1 ≠ bi) (n2 : b2 ≠ bi) (n3 : b3 ≠ bi) (n4 : b4 ≠ bi) :
    Calls Yba.prog 19 #[.slice (some ⟨bi, 0, none⟩) l cap, .pointer (some ⟨b1, 0, none⟩), .pointer (some ⟨b2, 0, none⟩), .pointer (some ⟨b3, 0, none⟩), .pointer (some ⟨b4, 0, none⟩)] w fun e w' =>
      e = .returned (.slice (some ⟨bi, 0, none⟩) (l + 2 * k) cap) ∧ w.grownBy w' (some bi) ∧
      w'.rowIs bi 3 cap (app (app (app f l (wt * k + 0) (first + 1)) (l + (first + 1)) (rt * k + 0) k) (l + (first + 1) + k) (wt * k + (first + 1)) (k - (first + 1))) := by
  obtain ⟨v1, v2, v3, v4⟩ := id hC
  obtain ⟨s1, hs1, hfi⟩ : ∃ s1 : Nat, s1 = first + 1 ∧ ((first : Int) + 1) = (s1 : Int) := ⟨first + 1, rfl, by omega⟩
  rw [← hs1]
  have HS : Hid (s1 = first + 1) := hs1
  have hsk : s1 ≤ k := by omega
  have hfi2 : IntKind.i64.wrap (s1 : Int) = (s1 : Int) := by rw [IntKind.wrap_i64]; omega
  clear hs1
  go_enter Yba.func19, Yba.ntmps19
  go_wp2_with fail
  refine (appendSteps_any bg bi cap l wt k 0 s1 f hw hk hsk (by omega) (by omega) hcap' _ c2 row hne).mono ?_
  rintro e w1 ⟨rfl, R1⟩
  rw [show s1 - 0 = s1 by omega] at *
  have C1 := hC.grown R1.gr n1 n2 n3 n4
  obtain ⟨x1, x2, x3, x4⟩ := id C1
  have d2 : w1.cell? ⟨bg, 2, none⟩ = some (.int .i64 k) := R1.gr.cell c2 (by simpa using hne)
  clear v1 v2 v3 v4
  go_wp2_with fail
  go_region_held3 (fun w' => w'.cell? ⟨b1, 0, none⟩ = some (.pointer (some ⟨bg, 0, none⟩)) ∧ w'.cell? ⟨b4, 0, none⟩ = some (.int .i64 rt) ∧ w'.cell? ⟨bg, 2, none⟩ = some (.int .i64 k))
    (first | exact ⟨x1, x4, d2⟩ | exact ⟨R2.gr.cell (w := w1.drew) x1 (by simpa using n1), R2.gr.cell (w := w1.drew) x4 (by simpa using n4), R2.gr.cell (w := w1.drew) d2 (by simpa using hne)⟩)
    (first | (go_at_call 20; refine (appendSteps_any bg bi cap (l + s1) rt k 0 k (app f l (wt * k + 0) s1) hr hk ?_ ?_ ?_ hcap' _ ?_ ?_ hne).mono ?_; (· omega); (· omega); (· omega); (· exact d2); (· exact R1.row); (rintro e w2 ⟨rfl, R2⟩)))
  simp only [Nat.sub_zero] at R2
  have C2 := Cap.grown (w := w1.drew) ⟨C1.v1, C1.v2, C1.v3, C1.v4⟩ R2.gr n1 n2 n3 n4
  have e2 : w2.cell? ⟨bg, 2, none⟩ = some (.int .i64 k) := R2.gr.cell (w := w1.drew) d2 (by simpa using hne)
  have g12 : w.grownBy w2 (some bi) := grownBy_trans R1.gr ⟨R2.gr.os, R2.gr.tape, R2.gr.output, R2.gr.size, R2.gr.block⟩
  have row2 := R2.row
  obtain ⟨y1, y2, y3, y4⟩ := id C2
  clear x1 x2 x3 x4 d2 R1 R2 C1 C2 hC row c2
  go_wp2_with fail
  go_region_held3 (fun w' => w'.cell? ⟨b1, 0, none⟩ = some (.pointer (some ⟨bg, 0, none⟩)) ∧ w'.cell? ⟨b2, 0, none⟩ = some (.int .i64 wt) ∧ w'.cell? ⟨b3, 0, none⟩ = some (.int .i64 first) ∧ w'.cell? ⟨bg, 2, none⟩ = some (.int .i64 k))
    (first | exact ⟨y1, y2, y3, e2⟩ | exact ⟨R3.gr.cell (w := w2.drew) y1 (by simpa using n1), R3.gr.cell (w := w2.drew) y2 (by simpa using n2), R3.gr.cell (w := w2.drew) y3 (by simpa using n3), R3.gr.cell (w := w2.drew) e2 (by simpa using hne)⟩)
    (first | (go_at_call 20; refine (appendSteps_any bg bi cap (l + s1 + k) wt k s1 k (app (app f l (wt * k + 0) s1) (l + s1) (rt * k + 0) k) hw hk ?_ ?_ ?_ hcap' _ ?_ ?_ hne).mono ?_; (· omega); (· omega); (· omega); (· exact e2); (· exact row2); (rintro e w3 ⟨rfl, R3⟩)))
  have g3 : w.grownBy w3 (some bi) := grownBy_trans g12 ⟨R3.gr.os, R3.gr.tape, R3.gr.output, R3.gr.size, R3.gr.block⟩
  have row3 := R3.row
  have hlen : l + s1 + k + (k - s1) = l + 2 * k := by omega
  have HL : Hid (l + s1 + k + (k - s1) = l + 2 * k) := hlen
  clear hlen R3 row2 y1 y2 y3 y4 e2 g12
  go_wp2_with fail
  rw [HL.out]
  go_ret
  exact ⟨rfl, g3, row3⟩
end Go.Proofs.Ybulkblde
