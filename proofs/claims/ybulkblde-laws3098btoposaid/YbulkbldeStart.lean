/-
  'start' at no order given: the walk fills an order; ord and nodeAt are laid out along it.
-/
import Derived.Test.YbulkbldeFill
namespace Go.Proofs.Ybulkblde
open Go.RowKit

theorem Out.mono {w : World} {bo n A B : Nat} {rows : Nat → List Nat} (h : Out w bo n A rows) (hA : A ≤ B) : Out w bo n B rows := by
  obtain ⟨⟨ad, cp, r, q⟩, lt, ent, len⟩ := h
  refine ⟨⟨ad, cp, r, fun a ha => ?_⟩, by omega, ent, len⟩
  obtain ⟨q1, q2, q3⟩ := q a ha
  refine ⟨q1, q2, fun j hj => ?_⟩
  obtain ⟨b, e1, e2, e3⟩ := q3 j hj
  exact ⟨b, e1, by omega, e3⟩

theorem But.join' {a b c : World} {S : List Nat} (h : But [] a b) (k : But S b c) (hg : ∀ x, x ∈ S → a.heap.size ≤ x) : But [] a c :=
  ⟨k.os.trans h.os, k.tape.trans h.tape, k.output.trans h.output, Nat.le_trans h.size k.size, fun j hj hn => (k.block j (by have := h.size; omega) (fun hx => by have := hg _ hx; omega)).trans (h.block j hj hn)⟩

/-- What 'start(nil)' leaves where it answers true. -/
structure Laid (w : World) (b bo bn n : Nat) (ev : Int) (fa : Option Addr) (fc : Nat) (p : Nat → Nat) (A : Nat) (w' : World) : Prop where
  bel : Below A w w'
  ord : ∃ f, w'.rowIs bo 21 n f ∧ ∀ i, i < n → f (p i) = .int .i32 i
  at_ : ∃ g, w'.rowIs bn 21 n g ∧ ∀ i, i < n → g i = .int .i32 (p i)
  c38 : w'.cell? ⟨b, 38, none⟩ = some (.slice fa 0 fc)
  c41 : w'.cell? ⟨b, 41, none⟩ = some (.int .i64 ev)
  c42 : w'.cell? ⟨b, 42, none⟩ = some (.int .i64 1)
  c44 : w'.cell? ⟨b, 44, none⟩ = some (.slice (some ⟨bo, 0, none⟩) n n)
  c45 : w'.cell? ⟨b, 45, none⟩ = some (.slice (some ⟨bn, 0, none⟩) n n)

set_option maxRecDepth 100000 in
set_option maxHeartbeats 4000000 in
theorem start_topo (b bout bo bn n A : Nat) (rows : Nat → List Nat) (ev : Int) (fa : Option Addr) (fl fc : Nat) (w : World) (hn : n ≤ 255)
    (hv : Vs w b bo bn n ev fa fl fc) (c6 : w.cell? ⟨b, 6, none⟩ = some (.slice (some ⟨bout, 0, none⟩) n n)) (hout : Out w bout n A rows) (hA : A ≤ w.heap.size)
    (f0 g0 : Nat → Value) (ho : w.rowIs bo 21 n f0) (hnn : w.rowIs bn 21 n g0) (d2 : b ≠ bo) (d3 : b ≠ bn) (d6 : bo ≠ bn)
    (hB : A ≤ b ∧ A ≤ bo ∧ A ≤ bn) (hf : fl ≤ fc ∧ fc ≤ maxLen) :
    Calls Yba.prog 11 #[.pointer (some ⟨b, 0, none⟩), .slice none 0 0] w fun e w' => ((run rows n n []).length < n ∧ e = .returned (.bool false) ∧ But [] w w') ∨
      ((run rows n n []).length = n ∧ e = .returned (.bool true) ∧ Laid w b bo bn n ev fa fc (fun i => (run rows n n []).getD i 0) A w') := by
  have hb : b < w.heap.size := cell_lt hv.c0
  have NW := newWalk_any (A := A) w hn hout hA
  have hnl := fun w => Lib.run_eql_slice_nil (P := Yba.prog) w 34 3 none 0 0 0 0 Yba.underlying34
  go_enter Yba.func11, Yba.ntmps11
  go_wp2_with fail
  refine NW.mono ?_
  rintro e w1 ⟨bw, bt, bc, bh, br, rfl, hb1, wt, o1, hwt⟩
  have hs1 := hb1.size
  have WS1 : WS w1 bout n w.heap.size bw bt bc bh br rows (run rows n n []) [] := ⟨⟨wt, o1, hwt⟩, Way.start rows n⟩
  have FL := fill_any w1 hn WS1 ((hout.below (hb1.below hA (by simp))).mono hA) hs1
  have LA : ∀ x, x ∈ [bw, bt, bc, br] → w.heap.size ≤ x := by
    intro x hx
    simp at hx
    rcases hx with rfl | rfl | rfl | rfl
    · exact o1.lw
    · exact o1.lt
    · exact o1.lc
    · exact o1.lr
  clear NW hnl WS1 o1 hwt
  go_wp2_with fail
  refine FL.mono ?_
  rintro e w2 ⟨rfl, hb2', W2⟩
  have hb2 : But [] w w2 := hb1.join' hb2' LA
  have hvv := hv.of_block (hb2.block b hb (by simp))
  have c6' : w2.cell? ⟨b, 6, none⟩ = some (.slice (some ⟨bout, 0, none⟩) n n) := (World.cell?_of_block (w := w) (hb2.block b hb (by simp))).trans c6
  have ho2 := ho.of_block (hb2.block bo ho.lt (by simp))
  have hn2 := hnn.of_block (hb2.block bn hnn.lt (by simp))
  have hlo := ho.lt
  have hln := hnn.lt
  generalize hT : run rows n n [] = T at W2 ⊢
  obtain ⟨⟨wt2, o2, _⟩, way⟩ := W2
  have tl := way.ord.len
  have tlt := way.ord.lt
  have tnd := way.ord.nd
  have oc6 := o2.c6
  obtain ⟨f, rf, hff⟩ := o2.rr
  have hlr := o2.lr
  clear FL hb2' way hb1 hs1 hv c6 ho hnn LA o2
  have HT := (show Hid _ from hT)
  clear hT
  have OA : ∀ W, W.cell? ⟨bw, 6, none⟩ = some (.slice (some ⟨br, 0, none⟩) T.length n) → Calls Yba.prog 23 #[.pointer (some ⟨bw, 0, none⟩)] W fun e w' => e = .returned (.slice (some ⟨br, 0, none⟩) T.length n) ∧ w' = W := fun W h => order_any W h
  by_cases hTn : T.length < n
  · have hTi : (T.length : Int) < n := by omega
    go_wp2_with fail
    go_quiet ((go_at_call 23; refine Calls.quiet_of_same (OA _ (by simpa using oc6))))
    go_wp2_with fail
    go_ret
    have hT := HT.out
    subst hT
    exact .inl ⟨hTn, rfl, hb2.drewN _⟩
  · have hTi : ¬ (T.length : Int) < n := by omega
    have hTl : T.length = n := by omega
    have HL := (show Hid _ from hTl)
    clear hTl
    go_wp2_with fail
    go_quiet ((go_at_call 23; refine Calls.quiet_of_same (OA _ (by simpa using oc6))))
    go_wp2_with fail
    refine (OA _ (by simpa using oc6)).mono ?_
    rintro e w' ⟨rfl, rfl⟩
    have hTl := HL.out
    have hp : ∀ i, i < n → T.getD i 0 < n := fun i hi => tlt _ (by
      rw [List.getD_eq_getElem?_getD, List.getElem?_eq_getElem (by omega)]
      exact List.getElem_mem _)
    have hinj : ∀ i j, i < n → j < n → T.getD i 0 = T.getD j 0 → i = j := by
      intro i j hi hj e
      have h1 : i < T.length := by omega
      have h2 : j < T.length := by omega
      rw [List.getD_eq_getElem?_getD, List.getD_eq_getElem?_getD, List.getElem?_eq_getElem h1, List.getElem?_eq_getElem h2] at e
      have e' : T[i] = T[j] := by simpa using e
      rcases Nat.lt_trichotomy i j with c | c | c
      · exact absurd e' (List.pairwise_iff_getElem.1 tnd i j h1 h2 c)
      · exact c
      · exact absurd e'.symm (List.pairwise_iff_getElem.1 tnd j i h2 h1 c)
    have hs0 : w2.rowIs br 3 n (fun i => .int .i64 ((T.getD i 0 : Nat) : Int)) := rf.congr (fun i hi => by
      have h1 : i < T.length := by omega
      rw [hff i h1, List.getD_eq_getElem?_getD, List.getElem?_eq_getElem h1]
      rfl)
    have e3 : ∀ k : Nat, (w2.drewN nq).heap[k]? = w2.heap[k]? := fun k => rfl
    have hb3 : But [] w (w2.drewN nq) := hb2.drewN nq
    have hs := hs0.of_block (e3 br)
    have ho := ho2.of_block (e3 bo)
    have hnn := hn2.of_block (e3 bn)
    have hv := hvv.of_block (e3 b)
    rw [hTl]
    clear OA oc6 rf hff HL tl tlt tnd hs0 ho2 hn2 hvv c6' hTi hTn hout e3
    generalize w2.drewN nq = w3 at hb3 hs ho hnn hv ⊢
    have d1 : b ≠ br := by omega
    have d4 : br ≠ bo := by omega
    have d5 : br ≠ bn := by omega
    have HC := (show Hid _ from (⟨HT.out, hb3, hTl⟩ : _ ∧ _ ∧ _))
    clear HT hb3 hb2 hTl
    have h0 : SRel w3 b br bo bn n (fun i => T.getD i 0) A 0 w3 := ⟨Below.refl _ _, rfl, rfl, ⟨f0, ho, fun i h => absurd h (by omega)⟩, ⟨g0, hnn, fun i h => absurd h (by omega)⟩⟩
    generalize hpp : (fun i => T.getD i 0) = p at h0
    have hp' : ∀ i, i < n → p i < n := by rw [← hpp]; exact hp
    have hinj' : ∀ i j, i < n → j < n → p i = p j → i = j := by rw [← hpp]; exact hinj
    have hs' : w3.rowIs br 3 n (fun i => .int .i64 (p i : Int)) := by rw [← hpp]; exact hs
    have HPP := (show Hid _ from hpp)
    clear hp hinj hs hpp ho hnn
    go_wp2_with fail
    go_loopw [33] (fun i wr => ∃ k : Nat, k ≤ n ∧ i = .int .i64 k ∧ SRel w3 b br bo bn n p A k wr) (fun i _ => n - (intOf i).toNat)
    case atStart => exact ⟨0, Nat.zero_le _, rfl, h0⟩
    case round =>
      obtain ⟨k, hk, rfl, R⟩ := hrel
      clear h0
      have v' := hv.of_block R.eb
      by_cases hlt : k < n
      · have c1 := (hs'.of_block R.es).cell hlt
        have c44 := v'.c44
        have c45 := v'.c45
        have hpk := hp' k hlt
        obtain ⟨f, f1, f2⟩ := R.ord
        have o1 := f1.cell hpk
        have o2 := f1.frozen (p k)
        obtain ⟨g, q1, q2⟩ := R.at_
        have g1 := q1.cell hlt
        have g2 := q1.frozen k
        have R' := R.step hlt hinj' d2 d3 d4 d5 d6 hB
        clear hs' hp' hinj' hv v' f1 f2 q1 q2 R
        go_wp2_with fail
        go_roundw
        case rel => exact ⟨k + 1, by omega, by go_num, R'⟩
        case measure => simp [intOf]; omega
      · obtain rfl : k = n := by omega
        have R' := fun m => R.end_ v' d1 d2 d3 hB.1 m
        obtain ⟨a0, a35, a36, a37, a38, a40, ⟨x41, a41⟩, ⟨x42, a42⟩, a43, a44, a45, a50, a52, fz⟩ := v'
        have z38 := fz 38
        have z40 := fz 40
        have z41 := fz 41
        have z42 := fz 42
        have hf1 := hf.1
        have hf2 := hf.2
        unfold maxLen at hf2
        clear fz hs' hp' hinj' hv hf R
        go_wp2_with fail
        refine wp_loop_rounds 1 ?_; rw [rounds_succ]
        go_wp2_with fail
        refine (solve_any b _ (by simp [go_sem, a37]) (by simp [go_sem, a35]) (by simp [go_sem, a52]) (by simp [go_sem, a50]) (by simp [go_sem, a40])).mono ?_
        rintro e w' ⟨rfl, m, rfl⟩
        go_wp2_with fail
        refine (backtrack_any b _ (by simp [go_sem, a36])).mono ?_
        rintro e w' ⟨rfl, rfl⟩
        go_wp2_with fail
        refine (clearHeap_any b _ (by simp [go_sem, a40]) (by simp [go_sem, z40])).mono ?_
        rintro e w' ⟨rfl, rfl⟩
        go_wp2_with fail
        go_ret
        obtain ⟨hT, hb3, hTl⟩ := HC.out
        have S := R' m
        have hpp := HPP.out
        subst hT
        refine .inr ⟨hTl, rfl, ?_⟩
        rw [hpp]
        exact ⟨(hb3.below hA (by simp)).trans S.bel, S.ord, S.at_, S.c38, S.c41, S.c42, S.c44, S.c45⟩
end Go.Proofs.Ybulkblde
