/-
  'around': the ids of a schedule, the core at a place drawn.
-/
import Derived.Test.YbulkbldeGen
namespace Go.Proofs.Ybulkblde
open Go.RowKit

theorem Yba.info3' : (Yba.prog.info? 3).map (fun i => (i.zero, i.size, i.bytes)) = some (some (.int .i64 0), 1, 8) := by kernel_rfl

/-- 'make([]T, 0, c)', T of one cell. -/
theorem run_make_cap {P : Program} (t e : TypeId) (z : Value) (bytes : Nat) (ht : P.underlying t = some (.slice e)) (hinfo : (P.info? e).map (fun i => (i.zero, i.size, i.bytes)) = some (some z, 1, bytes)) (hz1 : z.cells = #[z])
    (kl kc : IntKind) (c : Nat) (hbytes : bytes * c ≤ 281474976710656) (h63 : c ≤ 9223372036854775807) (w : World) :
    (Instr.makeSlice t (.int kl 0) (.int kc (c : Int))).run P w = .ok (.slice (some ⟨w.heap.size, 0, none⟩) 0 c) (w.alloc (.cells (madeCells #[z] c) e)) := by
  obtain ⟨i, hi, hzz⟩ := Option.map_eq_some_iff.1 hinfo
  simp only [Prod.mk.injEq] at hzz
  obtain ⟨hz, hs, hb⟩ := hzz
  have hb' : (i.bytes : Int) * (c : Int) ≤ 281474976710656 := by
    have h : ((i.bytes * c : Nat) : Int) ≤ 281474976710656 := by rw [hb]; omega
    rwa [Int.natCast_mul] at h
  have hr := run_make (P := P) w t e i z ht hi hz kl kc 0 c (by omega) (by omega) hb' (by omega)
  simp only [Int.toNat_natCast, hs, Nat.mul_one, hz1] at hr
  exact hr

/-- A slice expression on an []int, kept from the walk's own unfolding: 'attribute [local go_sem ↓] hideSlc'. -/
def slc34 (x : Value) (lo hi mx : Option Value) := Instr.slice 34 x lo hi mx
theorem hideSlc (x : Value) (lo hi mx : Option Value) : Instr.slice 34 x lo hi mx = slc34 x lo hi mx := rfl

theorem Yba.cells3' : Yba.prog.cellsOf 3 = 1 := by kernel_rfl

theorem slc_from (b o len cap l : Nat) (hl : l ≤ len) (_hc : len ≤ cap) : ∃ o', (l < cap → o' = o + l) ∧ ∀ w, (slc34 (.slice (some ⟨b, o, none⟩) len cap) (some (.int .i64 l)) none none).run Yba.prog w = .ok (.slice (some ⟨b, o', none⟩) (len - l) (cap - l)) w := by
  have hu := Yba.underlying34
  have hs : ∀ w, (sizeOf 3).run Yba.prog w = .ok 1 w := fun _ => by kernel_rfl
  by_cases h : cap = l
  · refine ⟨o, fun h' => absurd h' (by omega), fun w => ?_⟩
    unfold slc34 Instr.slice
    simp [go_sem, run_underlying hu, hs, h, hl]
  · refine ⟨o + l, fun _ => rfl, fun w => ?_⟩
    unfold slc34 Instr.slice
    simp [go_sem, run_underlying hu, hs, h, hl]

theorem slc_to (b o len cap h : Nat) (hl : h ≤ len) (hc : len ≤ cap) (w : World) : (slc34 (.slice (some ⟨b, o, none⟩) len cap) none (some (.int .i64 h)) none).run Yba.prog w = .ok (.slice (some ⟨b, o, none⟩) h cap) w := by
  have hu := Yba.underlying34
  have hs : ∀ w, (sizeOf 3).run Yba.prog w = .ok 1 w := fun _ => by kernel_rfl
  have hh : (h : Int) ≤ (cap : Int) := by omega
  unfold slc34 Instr.slice
  by_cases e : cap = 0
  · obtain rfl : h = 0 := by omega
    simp [go_sem, run_underlying hu, hs, e]
  · simp [go_sem, run_underlying hu, hs, hh]

/-- The ids that 'plantOverwrittenRead' lays out. -/
def idf (p : Nat → Nat) (k at_ wt rt first i : Nat) : Nat :=
  if i < at_ * k then p (2 + i / k) * k + i % k
  else if i < at_ * k + (first + 1) then wt * k + (i - at_ * k)
  else if i < at_ * k + (first + 1) + k then rt * k + (i - (at_ * k + (first + 1)))
  else if i < at_ * k + 2 * k then wt * k + (i - (at_ * k + k))
  else p (i / k) * k + i % k

/-- The first L cells of a row hold the ids. -/
def Con (c : Nat → Value) (L : Nat) (g : Nat → Nat) : Prop := ∀ i, i < L → c i = .int .i64 (g i)

theorem div_mod_of (k d i : Nat) (h1 : d * k ≤ i) (h2 : i < d * k + k) : i / k = d ∧ i % k = i - d * k := by
  have hk : 0 < k := by omega
  have e : i / k = d := by
    rw [Nat.div_eq_of_lt_le] <;> (try rw [Nat.add_mul]) <;> omega
  refine ⟨e, ?_⟩
  have := Nat.div_add_mod i k
  rw [e, Nat.mul_comm] at this
  omega

theorem Con.first {c : Nat → Value} {p : Nat → Nat} {k at_ wt rt first d : Nat} (h : Con c (d * k) (idf p k at_ wt rt first)) (hd : d < at_) :
    Con (app c (d * k) (p (2 + d) * k + 0) k) (d * k + k) (idf p k at_ wt rt first) := by
  intro i hi
  unfold app
  by_cases e1 : i < d * k
  · rw [if_pos e1]; exact h i e1
  · rw [if_neg e1, if_pos hi]
    have hlt : (d + 1) * k ≤ at_ * k := Nat.mul_le_mul_right k (by omega)
    rw [Nat.add_mul] at hlt
    obtain ⟨q1, q2⟩ := div_mod_of k d i (by omega) hi
    unfold idf
    rw [if_pos (by omega), q1, q2, Nat.add_zero]

theorem Con.mid {c : Nat → Value} {p : Nat → Nat} {k at_ wt rt first : Nat} (hf : first < k) (h : Con c (at_ * k) (idf p k at_ wt rt first)) :
    Con (app (app (app c (at_ * k) (wt * k + 0) (first + 1)) (at_ * k + (first + 1)) (rt * k + 0) k) (at_ * k + (first + 1) + k) (wt * k + (first + 1)) (k - (first + 1))) (at_ * k + 2 * k) (idf p k at_ wt rt first) := by
  intro i hi
  have h0 := h i
  unfold app
  unfold idf at *
  generalize at_ * k = A at *
  generalize wt * k = W at *
  generalize rt * k = R at *
  by_cases e1 : i < A
  · have := h0 e1
    simp [e1, show i < A + (first + 1) + k by omega, show i < A + (first + 1) by omega] at *
    exact this
  · by_cases e2 : i < A + (first + 1)
    · simp [e1, e2, show i < A + (first + 1) + k by omega]
    · by_cases e3 : i < A + (first + 1) + k
      · simp [e1, e2, e3]
      · simp [e1, e2, e3, hi, show i < A + (first + 1) + k + (k - (first + 1)) by omega]
        omega

theorem Con.last {c : Nat → Value} {p : Nat → Nat} {k at_ wt rt first d : Nat} (hf : first < k) (h : Con c (at_ * k + 2 * k + d * k) (idf p k at_ wt rt first)) :
    Con (app c (at_ * k + 2 * k + d * k) (p (2 + at_ + d) * k + 0) k) (at_ * k + 2 * k + d * k + k) (idf p k at_ wt rt first) := by
  intro i hi
  unfold app
  by_cases e1 : i < at_ * k + 2 * k + d * k
  · rw [if_pos e1]; exact h i e1
  · rw [if_neg e1, if_pos hi]
    have e : (2 + at_ + d) * k = at_ * k + 2 * k + d * k := by rw [Nat.add_mul, Nat.add_mul]; omega
    obtain ⟨q1, q2⟩ := div_mod_of k (2 + at_ + d) i (by omega) (by omega)
    unfold idf
    rw [if_neg (by omega), if_neg (by omega), if_neg (by omega), if_neg (by omega), q1, q2, e, Nat.add_zero]


/-- 'around', its loops: where the ids stand. -/
structure ORel (w : World) (bp bi tot L : Nat) (g : Nat → Nat) (wr : World) : Prop where
  os : wr.os = w.os
  tape : wr.tape = w.tape
  output : wr.output = w.output
  size : bi < wr.heap.size
  block : ∀ b, b < bi → b ≠ bp → wr.heap[b]? = w.heap[b]?
  row : ∃ c, wr.rowIs bi 3 tot c ∧ Con c L g

theorem ORel.grown {w wr w' : World} {bp bi tot L L' : Nat} {g : Nat → Nat} (h : ORel w bp bi tot L g wr) (hg : wr.grownBy w' (some bi)) {c : Nat → Value} (hr : w'.rowIs bi 3 tot c) (hc : Con c L' g) : ORel w bp bi tot L' g w' :=
  ⟨hg.os.trans h.os, hg.tape.trans h.tape, hg.output.trans h.output, Nat.lt_of_lt_of_le h.size hg.size, fun b hb hne => (hg.block b (Nat.lt_trans hb h.size) (by simp; omega)).trans (h.block b hb hne), c, hr, hc⟩

theorem ORel.cell {w wr : World} {bp bi tot L : Nat} {g : Nat → Nat} (h : ORel w bp bi tot L g wr) {b : Nat} (hb : b < bi) (hne : b ≠ bp) (o : Nat) : wr.cell? ⟨b, o, none⟩ = w.cell? ⟨b, o, none⟩ := World.cell?_of_block (w := w) (h.block b hb hne)

theorem ORel.cap {w wr : World} {bp bi tot L : Nat} {g : Nat → Nat} (h : ORel w bp bi tot L g wr) {b1 b2 b3 b4 bg wt rt first : Nat} (hC : Cap w b1 b2 b3 b4 bg wt rt first) (l1 : b1 < bi ∧ b1 ≠ bp) (l2 : b2 < bi ∧ b2 ≠ bp) (l3 : b3 < bi ∧ b3 ≠ bp) (l4 : b4 < bi ∧ b4 ≠ bp) :
    Cap wr b1 b2 b3 b4 bg wt rt first :=
  ⟨(h.cell l1.1 l1.2 0).trans hC.v1, (h.cell l2.1 l2.2 0).trans hC.v2, (h.cell l3.1 l3.2 0).trans hC.v3, (h.cell l4.1 l4.2 0).trans hC.v4⟩

attribute [local go_sem ↓] hideSlc

set_option maxRecDepth 100000 in
set_option maxHeartbeats 2000000 in
theorem around_any (bg bp bst bpm n k m tot : Nat) (p : Nat → Nat) (wt rt first b1 b2 b3 b4 : Nat) (hn : 2 ≤ n) (hn' : n ≤ 16) (hk : 2 ≤ k) (hk' : k ≤ 16) (htot : tot = n * k) (w : World)
    (hG : Gs w bg bp bst bpm n k m tot) (hgen : Gen bp w) (hperm : w.rowIs bpm 3 n (fun i => .int .i64 (p i))) (hp : ∀ i, i < n → p i < n) (hC : Cap w b1 b2 b3 b4 bg wt rt first)
    (hw : wt < 16) (hr : rt < 16) (hf : first < k) (l0 : bg ≠ bp) (l5 : bpm ≠ bp) (l1 : b1 ≠ bp) (l2 : b2 ≠ bp) (l3 : b3 ≠ bp) (l4 : b4 ≠ bp) :
    Calls Yba.prog 18 #[.pointer (some ⟨bg, 0, none⟩), .int .i64 2, .func (.func 19) #[] #[.pointer (some ⟨b1, 0, none⟩), .pointer (some ⟨b2, 0, none⟩), .pointer (some ⟨b3, 0, none⟩), .pointer (some ⟨b4, 0, none⟩)]] w fun e w' =>
      ∃ at_, at_ ≤ n - 2 ∧ e = .returned (.slice (some ⟨w.heap.size, 0, none⟩) tot tot) ∧ ORel w bp w.heap.size tot tot (idf p k at_ wt rt first) w' := by
  have htb : tot ≤ 256 := by rw [htot]; exact Nat.mul_le_mul hn' hk'
  have hmk := run_make_cap (P := Yba.prog) 34 3 (.int .i64 0) 8 Yba.underlying34 Yba.info3' rfl .i64 .i64 tot (by omega) (by omega)
  have g0 := hG.c0
  have g2 := hG.c2
  have g4 := hG.c4
  have g5 := hG.c5
  have lg := cell_lt g0
  have lgp : bpm < w.heap.size := hperm.lt
  have ll1 := cell_lt hC.v1
  have ll2 := cell_lt hC.v2
  have ll3 := cell_lt hC.v3
  have ll4 := cell_lt hC.v4
  simp only at lg ll1 ll2 ll3 ll4
  obtain ⟨gh, gl, gb1, gb2, gblk⟩ := id hgen
  have lbp : bp < w.heap.size := cell_lt (a := ⟨bp, 0, none⟩) (v := .int .u64 gh) (by rw [cell_whole gblk]; rfl)
  obtain ⟨n1, rfl⟩ : ∃ n1 : Nat, n = n1 + 2 := ⟨n - 2, by omega⟩
  have HT : Hid (tot = (n1 + 2) * k) := htot
  have hpc : ∀ i, i < n1 → w.cell? ⟨bpm, 2 + i, none⟩ = some (.int .i64 (p (2 + i))) := fun i hi => hperm.cell (by omega)
  have HP : Hid (∀ i, i < n1 + 2 → p i < n1 + 2) := hp
  have HPC : Hid (∀ i, i < n1 → w.cell? ⟨bpm, 2 + i, none⟩ = some (.int .i64 (p (2 + i)))) := hpc
  obtain ⟨ro, hro, hs1⟩ := slc_from bpm 0 (n1 + 2) (n1 + 2) 2 (by omega) (by omega)
  simp only [Nat.add_sub_cancel, show ((2 : Nat) : Int) = 2 from rfl] at hs1
  have GB : Hid (Gen bp w) := hgen
  clear htot hG hperm hp hpc gblk hgen
  go_enter Yba.func18, Yba.ntmps18
  go_wp2_with fail
  refine (intN_z bg bp _ ?_ ?_ _ ?_ l0 ?_).mono ?_
  · omega
  · omega
  · simpa [go_sem, lg] using g0
  · obtain ⟨x1, x2, x3, x4, x5⟩ := GB.out
    exact ⟨x1, x2, x3, x4, by rw [Below.heap_alloc _ _ _ lbp]; exact x5⟩
  rintro e w1 ⟨⟨at_, hat, rfl⟩, R1⟩
  have hs2 := slc_to bpm ro n1 n1 at_ (by omega) (by omega)
  obtain ⟨ro2, hro2, hs3⟩ := slc_from bpm ro n1 n1 at_ (by omega) (by omega)
  have O0 : ORel w bp w.heap.size tot 0 (idf p k at_ wt rt first) w1 :=
    ⟨R1.os, R1.tape, R1.output, by rw [R1.size]; simp, fun b hb hne => (R1.block b hne).trans (Below.heap_alloc _ _ _ hb), _, (World.rowIs_made w (.int .i64 0) tot 3).of_block (R1.block _ (by omega)), fun i hi => absurd hi (by omega)⟩
  have hat' : at_ ≤ n1 := by omega
  clear R1 GB hat
  go_wp2_with fail
  go_loopw [7, 35] (fun s i wr => ∃ d : Nat, d ≤ at_ ∧ i = .int .i64 d ∧ s = .slice (some ⟨w.heap.size, 0, none⟩) (d * k) tot ∧ ORel w bp w.heap.size tot (d * k) (idf p k at_ wt rt first) wr) (fun _ i _ => at_ - (intOf i).toNat)
  case atStart => exact ⟨0, Nat.zero_le _, rfl, by simp, by simpa using O0⟩
  case round =>
    obtain ⟨d, hd, rfl, rfl, O⟩ := hrel
    clear O0
    by_cases hlt : d < at_
    · have c1 : wr.cell? ⟨bpm, ro + d, none⟩ = some (.int .i64 (p (2 + d))) := by
        rw [hro (by omega), Nat.zero_add, O.cell lgp l5]
        exact HPC.out d (by omega)
      have c2 : wr.cell? ⟨bg, 2, none⟩ = some (.int .i64 k) := (O.cell lg l0 2).trans g2
      have hpd := HP.out (2 + d) (by omega)
      have hroom : d * k + k ≤ tot := by
        rw [HT.out]
        have := Nat.mul_le_mul_right k (show d + 1 ≤ n1 + 2 by omega)
        rw [Nat.add_mul] at this
        omega
      obtain ⟨c, r1, r2⟩ := O.row
      have hsd : (d + 1) * k = d * k + k := by rw [Nat.add_mul]; omega
      have HSD : Hid ((d + 1) * k = d * k + k) := hsd
      clear hsd hs1 hs2 hs3 hro hro2
      go_wp2_with fail
      refine (appendSteps_any bg w.heap.size tot (d * k) (p (2 + d)) k 0 k c (by omega) hk' (by omega) (by omega) (by omega) htb _ c2 r1 (by omega)).mono ?_
      rintro e w2 ⟨rfl, R2⟩
      simp only [Nat.sub_zero] at R2
      have O2 := O.grown R2.gr R2.row (r2.first hlt)
      clear R2 c1 c2 r1 r2
      go_wp2_with fail
      go_roundw
      case rel => exact ⟨d + 1, by omega, by go_num, by rw [HSD.out], by rw [HSD.out]; exact O2⟩
      case measure => simp [intOf]; omega
    obtain rfl : d = at_ := by omega
    clear hd hlt
    have hC' := O.cap hC ⟨ll1, l1⟩ ⟨ll2, l2⟩ ⟨ll3, l3⟩ ⟨ll4, l4⟩
    have c2 : wr.cell? ⟨bg, 2, none⟩ = some (.int .i64 k) := (O.cell lg l0 2).trans g2
    have hroom : d * k + 2 * k ≤ tot := by
      rw [HT.out]
      have := Nat.mul_le_mul_right k (show d + 2 ≤ n1 + 2 by omega)
      rw [Nat.add_mul] at this
      omega
    obtain ⟨c, r1, r2⟩ := O.row
    go_wp2_with fail
    refine (core_any bg w.heap.size tot (d * k) k wt rt first b1 b2 b3 b4 c hw hr hk' hf hroom htb _ c2 hC' r1 (by omega) (by omega) (by omega) (by omega) (by omega)).mono ?_
    rintro e w2 ⟨rfl, G2, row2⟩
    have O2 := O.grown G2 row2 (r2.mid hf)
    clear O hC' c2 r1 r2 G2 row2
    go_wp2_with fail
    go_loopw [7, 55] (fun s i wr => ∃ q : Nat, q ≤ n1 - d ∧ i = .int .i64 q ∧ s = .slice (some ⟨w.heap.size, 0, none⟩) (d * k + 2 * k + q * k) tot ∧ ORel w bp w.heap.size tot (d * k + 2 * k + q * k) (idf p k d wt rt first) wr) (fun _ i _ => n1 - d - (intOf i).toNat)
    case atStart => exact ⟨0, Nat.zero_le _, rfl, by simp, by simpa using O2⟩
    case round =>
      obtain ⟨q, hq, rfl, rfl, O⟩ := hrel
      clear O2
      by_cases hlt : q < n1 - d
      · have c1 : wr.cell? ⟨bpm, ro2 + q, none⟩ = some (.int .i64 (p (2 + d + q))) := by
          rw [hro2 (by omega), hro (by omega), O.cell lgp l5]
          have := HPC.out (d + q) (by omega)
          rw [show 0 + 2 + d + q = 2 + (d + q) by omega, this]
        have c2 : wr.cell? ⟨bg, 2, none⟩ = some (.int .i64 k) := (O.cell lg l0 2).trans g2
        have hpd := HP.out (2 + d + q) (by omega)
        have hroom : d * k + 2 * k + q * k + k ≤ tot := by
          rw [HT.out]
          have := Nat.mul_le_mul_right k (show d + 2 + q + 1 ≤ n1 + 2 by omega)
          rw [Nat.add_mul, Nat.add_mul, Nat.add_mul] at this
          omega
        obtain ⟨c, r1, r2⟩ := O.row
        have hsd : d * k + 2 * k + (q + 1) * k = d * k + 2 * k + q * k + k := by rw [Nat.add_mul q]; omega
        have HSD : Hid (d * k + 2 * k + (q + 1) * k = d * k + 2 * k + q * k + k) := hsd
        have hlt2 : (q : Int) < (n1 : Int) - (d : Int) := by omega
        clear hsd hs1 hs2 hs3 hro hro2
        go_wp2_with fail
        refine (appendSteps_any bg w.heap.size tot (d * k + 2 * k + q * k) (p (2 + d + q)) k 0 k c (by omega) hk' (by omega) (by omega) (by omega) htb _ c2 r1 (by omega)).mono ?_
        rintro e w3 ⟨rfl, R3⟩
        simp only [Nat.sub_zero] at R3
        have O3 := O.grown R3.gr R3.row (r2.last hf)
        clear R3 c1 c2 r1 r2
        go_wp2_with fail
        go_roundw
        case rel => exact ⟨q + 1, by omega, by go_num, by rw [HSD.out], by rw [HSD.out]; exact O3⟩
        case measure => simp [intOf]; omega
      · obtain rfl : q = n1 - d := by omega
        have hL : d * k + 2 * k + (n1 - d) * k = tot := by
          rw [HT.out, ← Nat.add_mul, ← Nat.add_mul]
          congr 1
          omega
        have HL : Hid (d * k + 2 * k + (n1 - d) * k = tot) := hL
        clear hL hs1 hs2 hs3 hro hro2
        go_wp2_with fail
        go_ret
        refine ⟨d, by omega, by show Ending.returned (.slice (some ⟨w.heap.size, 0, none⟩) (d * k + 2 * k + (n1 - d) * k) tot) = _; rw [HL.out], ?_⟩
        have O' := O
        rw [HL.out] at O'
        exact O'
end Go.Proofs.Ybulkblde
