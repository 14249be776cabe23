/-
  bufio.Writer.Write where the buffer runs over.
-/
import Derived.Test.YbulkbldsDoorFlushF
namespace Go.Proofs.YbulkbldsDoor
open Go.Shelf Go.RowKit
variable {A B bt bw bb bz : Nat} {w0 : World}

/-- No block that was there has turned but bw, bb, bz and v's own; v' lies where v lay, or anew. -/
structure FrW (bw bb bz : Nat) (v : Value) (w : World) (v' : Value) (w' : World) : Prop where
  os : w'.os = w.os
  tape : w'.tape = w.tape
  output : w'.output = w.output
  size : w.heap.size ≤ w'.heap.size
  block : ∀ k, k < w.heap.size → k ≠ bw → k ≠ bb → k ≠ bz → some k ≠ v.ownBlock → w'.heap[k]? = w.heap[k]?
  own : v'.ownBlock = v.ownBlock ∨ ∃ g, v'.ownBlock = some g ∧ w.heap.size ≤ g

theorem FrW.of_two {v : Value} {w w' : World} (h : Two bw bb w w') : FrW bw bb bz v w v w' :=
  ⟨h.os, h.tape, h.output, by rw [h.size]; exact Nat.le_refl _, fun k _ h1 h2 _ _ => h.block k h1 h2, Or.inl rfl⟩
theorem FrW.trans {v v1 v2 : Value} {w w1 w2 : World} (h : FrW bw bb bz v w v1 w1) (k : FrW bw bb bz v1 w1 v2 w2) : FrW bw bb bz v w v2 w2 := by
  refine ⟨k.os.trans h.os, k.tape.trans h.tape, k.output.trans h.output, Nat.le_trans h.size k.size, ?_, ?_⟩
  · intro j hj h1 h2 h3 hn
    have s := h.size
    rw [k.block j (by omega) h1 h2 h3 ?_, h.block j hj h1 h2 h3 hn]
    rcases h.own with e | ⟨g, e, hg⟩
    · rw [e]; exact hn
    · rw [e]; intro h'; injection h'; omega
  · have s := h.size
    rcases k.own with e | ⟨g, e, hg⟩
    · rw [e]; exact h.own
    · exact Or.inr ⟨g, e, by omega⟩

/-- What Flush leaves. -/
theorem flush_state {zv v' : Value} {zc c : List UInt8} {w w1 : World} (h : Bf bw bb bz c w) (hz : w.rowIs bz 27 2 (zzc zv .nilIface)) (ho : Owns B zv zc w) (hn : bz ≠ bw) (hn2 : bz ≠ bb) (hlt : bw < B) (hltb : bb < B) (hltz : bz < B) (hB : B ≤ w.heap.size) (hf : Fr zv w v' w1) :
    Bf bw bb bz [] ((w1.setCell ⟨bz, 0, none⟩ v').setCell ⟨bw, 2, none⟩ (.int .i64 0)) ∧ ((w1.setCell ⟨bz, 0, none⟩ v').setCell ⟨bw, 2, none⟩ (.int .i64 0)).rowIs bz 27 2 (zzc v' .nilIface) ∧
      FrW bw bb bz zv w v' ((w1.setCell ⟨bz, 0, none⟩ v').setCell ⟨bw, 2, none⟩ (.int .i64 0)) := by
  have bl := hf.below ho hB
  refine ⟨⟨?_, ?_, h.ne⟩, ?_, ⟨hf.os, hf.tape, hf.output, by simp; exact hf.size, ?_, hf.own⟩⟩
  · have hr := World.rowIs.of_block (w' := w1.setCell ⟨bz, 0, none⟩ v') h.wr ((Below.heap_setCell _ _ _ _ (show bw ≠ bz from fun e => hn e.symm)).trans (bl.block bw hlt))
    refine (hr.set 2 _).congr ?_
    intro i _
    unfold wrc
    by_cases e : i = 2 <;> simp [e]
  · obtain ⟨cur, x1, x2, _⟩ := h.bf
    refine ⟨cur, ?_, x2, by simp [Lib.byteCells]⟩
    rw [Below.heap_setCell _ _ _ _ (show bb ≠ bw from fun e => h.ne e.symm), Below.heap_setCell _ _ _ _ (show bb ≠ bz from fun e => hn2 e.symm)]
    exact (bl.block bb hltb).trans x1
  · have hr := World.rowIs.of_block (w' := w1) hz (bl.block bz hltz)
    have hr2 := (hr.set 0 v').congr (g := zzc v' .nilIface) (by
      intro i _
      unfold zzc
      by_cases e : i = 0 <;> simp [e])
    exact World.rowIs.of_block hr2 (Below.heap_setCell _ _ _ _ hn)
  · intro k hk h1 _ h3 hn
    rw [Below.heap_setCell _ _ _ _ h1, Below.heap_setCell _ _ _ _ h3]
    exact hf.block k hk hn

/-- 'copy' as one step of a region that draws its order; nothing to copy is served too. -/
theorem step_copy_any {P : Program} {ops : Array Oper} {o : Oper} {a : Act} {w : World} {K : Act → World → Prop} {Q : Exit → Act → World → Prop} {E : Prop} (hgd : o.guard = none) (d s : Operand) (dT sT : TypeId)
    (ho : o.op = .call { callee := .builtin .copy, args := #[d, s], argTypes := #[dT, sT] }) (elem : TypeId) (hu : P.underlying dT = some (.slice elem)) (hsz : (P.info? elem).map (·.size) = some 1)
    (dp : Option Addr) (ad : Addr) (dLen dCap sLen sCap : Nat) (g off : Nat) (hd : a.eval d = .slice dp dLen dCap) (hs : a.eval s = .slice (some ad) sLen sCap)
    (cur : List Value) (t : TypeId) (hg : w.heap[g]? = some (.cells cur.toArray t (0, 0))) (cs : List Value) (hn : cs.length = Nat.min sLen dLen) (hdp : 0 < cs.length → dp = some ⟨g, off, none⟩)
    (hsrc : ∀ j v, cs[j]? = some v → w.cell? (ad.add j) = some v)
    (hfit : off + cs.length ≤ cur.length) (h1 : ∀ v ∈ cs, v.oneCell' = true)
    (h : ∀ w', Hid (w'.heap[g]? = some (.cells (splice cur off cs).toArray t (0, 0))) → Hid (Oth g w w') → K (a.put o.dst (goInt cs.length)) w') :
    if Region.wanted o (yielded ops a.tmps) = true then Oper.wp P o a w K Q else E := by
  by_cases h0 : cs.length = 0
  · have hw : Region.wanted o (yielded ops a.tmps) = true := by simp [Region.wanted, hgd]
    rw [if_pos hw]
    obtain rfl : cs = [] := List.eq_nil_of_length_eq_zero h0
    have hrun := run_copy_none (P := P) w dT sT o.type elem dp (some ad) dLen dCap sLen sCap hu hsz (by simpa using hn.symm)
    unfold Oper.wp
    simp [execOp, ho, resolve, invoke, builtin, hd, hs, hrun, Result.andThen]
    exact h w (show _ = _ by simpa [splice] using hg) (show Oth g w w from ⟨rfl, rfl, rfl, rfl, fun _ _ => rfl⟩)
  · obtain rfl := hdp (by omega)
    exact step_copy_at hgd d s dT sT ho elem hu hsz ad dLen dCap sLen sCap g off hd hs cur t hg cs hn hsrc hfit h1 h

theorem slc_fromA (b n cap : Nat) (h : n ≤ cap) : ∃ dp, (n < cap → dp = some ⟨b, n, none⟩) ∧ ∀ w, (slc23 (.slice (some ⟨b, 0, none⟩) cap cap) (some (.int .i64 n)) none none).run Ybad.prog w = .ok (.slice dp (cap - n) (cap - n)) w := by
  by_cases e : n < cap
  · exact ⟨some ⟨b, n, none⟩, fun _ => rfl, slc_from b n cap e⟩
  · obtain rfl : n = cap := by omega
    refine ⟨some ⟨b, 0, none⟩, fun h => absurd h (by omega), fun w => ?_⟩
    have hs : ∀ w, (sizeOf 5).run Ybad.prog w = .ok 1 w := fun _ => by kernel_rfl
    unfold slc23 Instr.slice
    simp [go_sem, run_underlying Ybad.underlying23, hs]

theorem slc_p (b r len cap : Nat) (h : r < len) (hc : len ≤ cap) (w : World) : (slc23 (.slice (some ⟨b, 0, none⟩) len cap) (some (.int .i64 r)) none none).run Ybad.prog w = .ok (.slice (some ⟨b, r, none⟩) (len - r) (cap - r)) w := by
  have hs : ∀ w, (sizeOf 5).run Ybad.prog w = .ok 1 w := fun _ => by kernel_rfl
  have h1 : ¬ cap = r := by omega
  have h2 : (r : Int) ≤ (len : Int) := by omega
  unfold slc23 Instr.slice
  simp [go_sem, run_underlying Ybad.underlying23, hs, h1, h2]

set_option maxRecDepth 100000 in
theorem buffered_any (bw bb bz : Nat) (c : List UInt8) (w : World) (h : Bf bw bb bz c w) :
    Calls Ybad.prog 36 #[.pointer (some ⟨bw, 0, none⟩)] w fun e w' => e = .returned (.int .i64 (c.length : Int)) ∧ w' = w := by
  have c2 := h.c2
  go_enter Ybad.func36, Ybad.ntmps36
  go_wp2
  go_ret
  exact ⟨rfl, rfl⟩

attribute [local go_sem ↓] hideSlc

theorem cell_ltW {w : World} {a : Addr} {v : Value} (h : w.cell? a = some v) : a.block < w.heap.size := by
  by_cases hb : a.block < w.heap.size
  · exact hb
  · rw [World.cell?, Array.getElem?_eq_none (by omega)] at h
    cases h

theorem take_src {l : List UInt8} {w : World} {g r : Nat} (h : ∀ j (b : UInt8), l[j]? = some b → w.cell? ((⟨g, 0, none⟩ : Addr).add j) = some (.int .u8 (b.toNat : Int))) (j : Nat) (v : Value) (hj : (Lib.byteCells (l.take r))[j]? = some v) : w.cell? ((⟨g, 0, none⟩ : Addr).add j) = some v := by
  simp only [Lib.byteCells, List.getElem?_map, Option.map_eq_some_iff] at hj
  obtain ⟨b, hb, rfl⟩ := hj
  refine h j b ?_
  rw [List.getElem?_take] at hb
  split at hb
  · exact hb
  · cases hb

theorem drop_src {l : List UInt8} {w : World} {g r : Nat} (h : ∀ j (b : UInt8), l[j]? = some b → w.cell? ((⟨g, 0, none⟩ : Addr).add j) = some (.int .u8 (b.toNat : Int))) (j : Nat) (v : Value) (hj : (Lib.byteCells (l.drop r))[j]? = some v) : w.cell? ((⟨g, r, none⟩ : Addr).add j) = some v := by
  simp only [Lib.byteCells, List.getElem?_map, Option.map_eq_some_iff] at hj
  obtain ⟨b, hb, rfl⟩ := hj
  rw [List.getElem?_drop] at hb
  have h2 := h (r + j) b hb
  rw [Lib.add_plain] at h2 ⊢
  rw [Nat.zero_add] at h2
  exact h2

set_option maxRecDepth 100000 in
set_option maxHeartbeats 1000000 in
theorem write_over (zv : Value) (zc : List UInt8) (g n cp : Nat) (c l : List UInt8) (w : World) (hown : Owns B (.slice (some ⟨g, 0, none⟩) n cp) l w) (hlen : l.length ≤ 4000) (hc : c.length ≤ 4096) (hov : 4096 < c.length + l.length) (h : Bf bw bb bz c w)
    (hz : w.rowIs bz 27 2 (zzc zv .nilIface)) (ho : Owns B zv zc w) (hzc : zc.length ≤ 900000) (hd : some g ≠ zv.ownBlock) (hn : bz ≠ bw) (hn2 : bz ≠ bb) (hlt : bw < B) (hltb : bb < B) (hltz : bz < B) (hB : B ≤ w.heap.size) :
    Calls Ybad.prog 29 #[.pointer (some ⟨bw, 0, none⟩), .slice (some ⟨g, 0, none⟩) n cp] w fun e w' => e = .returned (.tuple #[.int .i64 l.length, .nilIface]) ∧
      ∃ zv' zc' c', Bf bw bb bz c' w' ∧ w'.rowIs bz 27 2 (zzc zv' .nilIface) ∧ Owns B zv' zc' w' ∧ zc' ++ c' = zc ++ (c ++ l) ∧ c'.length ≤ 4096 ∧ FrW bw bb bz zv w zv' w' := by
  have c0 := h.c0
  have c1 := h.c1
  have c2 := h.c2
  have hne := h.ne
  obtain ⟨cur, hcur, hcl, htake⟩ := h.bf
  obtain ⟨hnl, hncap, hgB⟩ : n = l.length ∧ n ≤ cp ∧ B ≤ g := by
    obtain ⟨a', c', e⟩ := hown.shape
    injection e with e1 e2 e3
    obtain ⟨_, ⟨h0, h1⟩ | ⟨g', cap, cur', hv, hb, hh, h4, _⟩⟩ := id hown
    · cases h0
    · injection hv with v1 v2 v3
      injection v1 with v1
      injection v1 with v1
      omega
  have hsrc : ∀ j (b : UInt8), l[j]? = some b → w.cell? ((⟨g, 0, none⟩ : Addr).add j) = some (.int .u8 (b.toNat : Int)) := fun j b hj => World.ownsRow.cells hown rfl j _ (by simp [Lib.byteCells, hj])
  subst hnl
  obtain ⟨N, hN⟩ : ∃ N, N = c.length := ⟨_, rfl⟩
  rw [← hN] at c2 hov hc
  obtain ⟨r, hr⟩ : ∃ r, r = 4096 - N := ⟨_, rfl⟩
  have hrl : r < l.length := by omega
  have hNr : N + r = 4096 := by omega
  have hN0 : ((N : Int) == 0) = false := by rw [beq_eq_false_iff_ne]; omega
  have hgt : ((4096 - N : Nat) : Int) < (l.length : Int) := by omega
  obtain ⟨dp, hdp, hsl⟩ := slc_fromA bb N 4096 hc
  have hslp := slc_p g r l.length cp hrl hncap
  have hbl : (Lib.byteCells (l.take r)).length = r := by simp [Lib.byteCells]; omega
  have hmin : Nat.min l.length (4096 - N) = r := by rw [← hr]; exact Nat.min_eq_right (by omega)
  have HH : Hid (Bf bw bb bz c w) := h
  have HN : Hid (N = c.length) := hN
  have HS := (show Hid _ from hsrc)
  have HDP := (show Hid _ from hdp)
  have HT : Hid (cur.take c.length = Lib.byteCells c) := htake
  have HZ : Hid (w.rowIs bz 27 2 (zzc zv .nilIface)) := hz
  have HO : Hid (Owns B zv zc w) := ho
  have HOW : Hid (Owns B (.slice (some ⟨g, 0, none⟩) l.length cp) l w) := hown
  have HR : Hid (r = 4096 - N) := hr
  have HCL : Hid (cur.length = 4096) := hcl
  clear h hN hsrc hdp htake hz ho hown hr hcl
  go_enter Ybad.func29, Ybad.ntmps29
  go_wp2_with fail
  refine wp_loop_rounds 2 ?_
  rw [rounds_succ]
  go_wp2_with (go_at_call 35; refine (avail_any bw bb bz c (by rw [← HN.out]; omega) _ HH.out).mono ?_)
  rintro e w1 ⟨rfl, q, rfl⟩
  rw [← HN.out]
  go_wp2_with (go_at_call 36; refine (buffered_any bw bb bz c (w.drewN q) ⟨HH.out.wr, HH.out.bf, HH.out.ne⟩).mono ?_)
  rintro e w1 ⟨rfl, rfl⟩
  rw [← HN.out]
  go_upto_region 5 with fail
  go_cut [6] from 46 to 47 (fun s6 wx => s6 = .int .i64 (r : Int) ∧ wx.heap[bb]? = some (.cells (splice cur N (Lib.byteCells (l.take r))).toArray 5 (0, 0)) ∧ Oth bb w wx)
  case first =>
    go_region_law (refine step_copy_any rfl (.tmp 43) (.tmp 44) 23 23 rfl 5 Ybad.underlying23 (by kernel_rfl) dp ⟨g, 0, none⟩ (4096 - N) (4096 - N) l.length cp bb N rfl rfl cur 5 hcur (Lib.byteCells (l.take r)) (by rw [hbl, hmin]) (fun h => HDP.out (by omega)) (fun j v hj => take_src HS.out j v hj) (by rw [hbl, HCL.out]; omega) (fun v hv => by simp only [Lib.byteCells, List.mem_map] at hv; obtain ⟨_, _, rfl⟩ := hv; rfl) ?_; intro w4 hg4 ho4)
    all_goals
      go_wp2_with fail
      go_meet
      case rel => exact ⟨rfl, hg4.out, oth_drew ho4.out⟩
  case rest =>
    obtain ⟨rfl, hg4, ho4⟩ := hcut
    have k2 : wc.cell? ⟨bw, 2, none⟩ = some (.int .i64 (N : Int)) := (World.cell?_of_block (w := w) (ho4.block bw hne)).trans c2
    have kf : wc.frozen? ⟨bw, 2, none⟩ = false := (World.frozen?_of_block (w := w) (ho4.block bw hne)).trans (HH.out.wr.frozen 2)
    have hsum : IntKind.i64.wrap ((N : Int) + (r : Int)) = 4096 := by rw [IntKind.wrap_i64]; omega
    have e4 : ((N + (l.take r).length : Nat) : Int) = 4096 := by simp; omega
    have hw0 : IntKind.i64.wrap (0 + (r : Int)) = (r : Int) := by rw [IntKind.wrap_i64]; omega
    have X1 : Bf bw bb bz (c ++ l.take r) (wc.setCell ⟨bw, 2, none⟩ (.int .i64 ((N + (l.take r).length : Nat) : Int))) := bf_next HH.out hg4 ho4 HCL.out HN.out.symm HT.out (by rw [← HN.out]; simp; omega)
    rw [e4] at X1
    have hbk : ∀ k, k ≠ bw → k ≠ bb → (wc.setCell ⟨bw, 2, none⟩ (.int .i64 4096)).heap[k]? = w.heap[k]? := fun k h1 h2 => (Below.heap_setCell _ _ _ _ h1).trans (ho4.block k h2)
    obtain ⟨W1, hW1⟩ : ∃ W, W = wc.setCell ⟨bw, 2, none⟩ (.int .i64 4096) := ⟨_, rfl⟩
    rw [← hW1] at X1 hbk
    have hW1s : W1.heap.size = w.heap.size := by rw [hW1]; simp [ho4.size]
    have Z1 : W1.rowIs bz 27 2 (zzc zv .nilIface) := World.rowIs.of_block HZ.out (hbk bz hn hn2)
    have O1 : Owns B zv zc W1 := HO.out.keep (fun k hk => hbk k (by have := (World.ownsRow.lt HO.out k hk).1; omega) (by have := (World.ownsRow.lt HO.out k hk).1; omega))
    have S1 : ∀ j (b : UInt8), l[j]? = some b → W1.cell? ((⟨g, 0, none⟩ : Addr).add j) = some (.int .u8 (b.toNat : Int)) := fun j b hj => by
      rw [World.cell?_of_block (w := w) (show W1.heap[((⟨g, 0, none⟩ : Addr).add j).block]? = _ from by rw [Lib.add_plain]; exact hbk g (by omega) (by omega))]
      exact HS.out j b hj
    have FW1 : Hid (FrW bw bb bz zv w zv W1) := ⟨by rw [hW1]; exact ho4.os, by rw [hW1]; exact ho4.tape, by rw [hW1]; exact ho4.output, by omega, fun k _ h1 h2 _ _ => hbk k h1 h2, Or.inl rfl⟩
    have hW1' := hW1.symm
    have H1 := (show Hid _ from And.intro X1 (And.intro Z1 (And.intro O1 S1)))
    clear e4 hW1 X1 Z1 O1 S1 hbk hg4 ho4 c0 c1 c2 hsl hcur HZ HO HS HH HDP HT
    have hc1 : (c ++ l.take r).length = 4096 := by have := HN.out; simp; omega
    go_wp2_with fail
    refine (flush_F (B := B) zv zc bw bb bz (c ++ l.take r) W1 H1.out.1 (by omega) (by omega) H1.out.2.1 H1.out.2.2.1 (by omega) hn hlt hltz (by omega)).mono ?_
    rintro e w2 ⟨rfl, a2, n2, d2, wf, hw2, f2, o2⟩
    obtain ⟨Y1, Y2, Y3⟩ := flush_state H1.out.1 H1.out.2.1 H1.out.2.2.1 hn hn2 hlt hltb hltz (by omega) f2
    rw [← hw2] at Y1 Y2 Y3
    have S2 : ∀ j (b : UInt8), l[j]? = some b → w2.cell? ((⟨g, 0, none⟩ : Addr).add j) = some (.int .u8 (b.toNat : Int)) := fun j b hj => by
      have hgl : g < W1.heap.size := by have hh := cell_ltW (H1.out.2.2.2 j b hj); rw [Lib.add_plain] at hh; exact hh
      rw [World.cell?_of_block (w := W1) (show w2.heap[((⟨g, 0, none⟩ : Addr).add j).block]? = _ from by rw [Lib.add_plain]; exact Y3.block g hgl (by omega) (by omega) (by omega) hd)]
      exact H1.out.2.2.2 j b hj
    have FW2 : Hid (FrW bw bb bz zv w (.slice a2 n2 d2) w2) := FW1.out.trans Y3
    have hc1' := hc1
    obtain ⟨cur2, hcur2, hcl2, _⟩ := Y1.bf
    have b0 := Y1.c0
    have b1 := Y1.c1
    have b2 := Y1.c2
    have bf2 := Y1.wr.frozen 2
    simp only [List.length_nil] at b2
    have HY : Hid (Bf bw bb bz [] w2 ∧ w2.rowIs bz 27 2 (zzc (.slice a2 n2 d2) .nilIface) ∧ Owns B (.slice a2 n2 d2) (zc ++ (c ++ l.take r)) w2) := ⟨Y1, Y2, o2⟩
    have HS2 := (show Hid _ from S2)
    have HCL2 : Hid (cur2.length = 4096) := hcl2
    have hs2 : W1.heap.size ≤ w2.heap.size := Y3.size
    clear hw2 f2 o2 Y1 Y2 Y3 S2 hcl2 k2 kf hsum hW1' H1 FW1
    have hslz : ∀ u, (slc23 (.slice (some ⟨bb, 0, none⟩) 4096 4096) (some (.int .i64 0)) none none).run Ybad.prog u = .ok (.slice (some ⟨bb, 0, none⟩) 4096 4096) u := slc_from bb 0 4096 (by omega)
    go_wp2_with fail
    rw [rounds_succ]
    have hav := (avail_any bw bb bz [] (by simp) w2 HY.out.1)
    simp only [List.length_nil, Nat.sub_zero] at hav
    obtain ⟨M, hM⟩ : ∃ M, M = l.length - r := ⟨_, rfl⟩
    rw [← hM]
    have hM1 : M ≤ 4000 := by omega
    have hMp : 0 < M := by omega
    have hle : ¬ ((4096 : Int) < (M : Int)) := by omega
    have HM : Hid (M = l.length - r) := hM
    clear hM
    go_wp2_with (go_at_call 35; refine hav.mono ?_; rintro e w3 ⟨rfl, q3, rfl⟩; clear hav)
    go_upto_region 12 with fail
    have hbl2 : (Lib.byteCells (l.drop r)).length = M := by simp [Lib.byteCells]; exact HM.out.symm
    have hmin2 : Nat.min M 4096 = M := Nat.min_eq_left (by omega)
    go_cut [7] from 83 to 84 (fun s7 wx => s7 = .int .i64 (M : Int) ∧ wx.heap[bb]? = some (.cells (splice cur2 0 (Lib.byteCells (l.drop r))).toArray 5 (0, 0)) ∧ Oth bb w2 wx)
    case first =>
      go_region_law (refine step_copy_any rfl (.tmp 80) (.tmp 81) 23 23 rfl 5 Ybad.underlying23 (by kernel_rfl) (some ⟨bb, 0, none⟩) ⟨g, r, none⟩ 4096 4096 M (cp - r) bb 0 rfl rfl cur2 5 hcur2 (Lib.byteCells (l.drop r)) (by rw [hbl2, hmin2]) (fun _ => rfl) (fun j v hj => drop_src HS2.out j v hj) (by rw [hbl2, HCL2.out]; omega) (fun v hv => by simp only [Lib.byteCells, List.mem_map] at hv; obtain ⟨_, _, rfl⟩ := hv; rfl) ?_; intro w4 hg4 ho4)
      all_goals
        go_wp2_with fail
        go_meet
        case rel => exact ⟨rfl, hg4.out, oth_drew ho4.out⟩
    case rest =>
      obtain ⟨rfl, hg5, ho5⟩ := hcut
      have e2 : wc.cell? ⟨bw, 2, none⟩ = some (.int .i64 0) := (World.cell?_of_block (w := w2) (ho5.block bw hne)).trans b2
      have ef : wc.frozen? ⟨bw, 2, none⟩ = false := (World.frozen?_of_block (w := w2) (ho5.block bw hne)).trans bf2
      have hwM : IntKind.i64.wrap (0 + (M : Int)) = (M : Int) := by rw [IntKind.wrap_i64]; omega
      have hwM2 : IntKind.i64.wrap (M : Int) = (M : Int) := by rw [IntKind.wrap_i64]; omega
      have hwl : IntKind.i64.wrap ((r : Int) + (M : Int)) = (l.length : Int) := by have := HM.out; rw [IntKind.wrap_i64]; omega
      have X := bf_next (N := 0) (l := l.drop r) HY.out.1 hg5 ho5 HCL2.out rfl (by simp [Lib.byteCells]) (by have := HM.out; simp; omega)
      rw [show ((0 + (l.drop r).length : Nat) : Int) = (M : Int) from by have := HM.out; simp; omega, List.nil_append] at X
      have bk : ∀ k, k ≠ bw → k ≠ bb → (wc.setCell ⟨bw, 2, none⟩ (.int .i64 (M : Int))).heap[k]? = w2.heap[k]? := fun k h1 h2 => (Below.heap_setCell _ _ _ _ h1).trans (ho5.block k h2)
      have Z5 : (wc.setCell ⟨bw, 2, none⟩ (.int .i64 (M : Int))).rowIs bz 27 2 (zzc (.slice a2 n2 d2) .nilIface) := World.rowIs.of_block HY.out.2.1 (bk bz hn hn2)
      have O5 : Owns B (.slice a2 n2 d2) (zc ++ (c ++ l.take r)) (wc.setCell ⟨bw, 2, none⟩ (.int .i64 (M : Int))) := HY.out.2.2.keep (fun k hk => bk k (by have := (World.ownsRow.lt HY.out.2.2 k hk).1; omega) (by have := (World.ownsRow.lt HY.out.2.2 k hk).1; omega))
      have FW5 : FrW bw bb bz (.slice a2 n2 d2) w2 (.slice a2 n2 d2) (wc.setCell ⟨bw, 2, none⟩ (.int .i64 (M : Int))) := FrW.of_two (two_next ho5 _)
      have HX := (show Hid _ from And.intro X (And.intro Z5 (And.intro O5 (FW2.out.trans FW5))))
      clear X Z5 O5 FW5 bk hg5 ho5 b0 b1 b2 bf2 hcur2 hslz
      go_wp2_with fail
      go_ret2
      refine ⟨by simp, .slice a2 n2 d2, _, _, HX.out.1, HX.out.2.1, HX.out.2.2.1, ?_, by simp; omega, HX.out.2.2.2⟩
      rw [List.append_assoc, List.append_assoc, List.take_append_drop]
end Go.Proofs.YbulkbldsDoor
