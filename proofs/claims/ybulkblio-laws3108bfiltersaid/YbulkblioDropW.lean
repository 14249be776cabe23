/-
  'heldLocks.drop': its walk.
-/
import Derived.Test.YbulkblioDrop
namespace Go.Proofs.Ybulkblio
open Go.RowKit
attribute [local go_sem ↓] hideSlc

set_option maxRecDepth 100000 in
set_option maxHeartbeats 10000000 in
theorem drop_any {I : Its} {B bh bs bl : Nat} {q : Nat → Nat} {st : Nat → Option Addr} {ad : Option Addr} (cd : Nat) (w : World) (P : Pre I B bh bs bl q st ad w) :
    Calls Yba.prog 6 #[.pointer (some ⟨bh, 0, none⟩), .slice ad I.D.length cd, .bool I.lo] w fun e w' => Dropped I B bh bs bl q w e w' := by
  have h0 := P.start
  have hn := P.hn
  have c0 := P.hl.c0
  have c6 := P.hl.c6
  have c8 := P.hl.c8
  have sf := slc_from bl I.n
  have st' := slc_to bl I.n
  go_enter Yba.func6, Yba.ntmps6
  go_wp2_with fail
  refine (indexed_any bh w c6).mono ?_
  rintro e w' ⟨rfl, rfl⟩
  go_wp2_with fail
  refine (start_any bh _ w' c6).mono ?_
  rintro e w' ⟨rfl, rfl⟩
  go_wp2_with fail
  go_loopw [68, 10, 6] (fun i kv lv wr => ∃ k : Nat, k ≤ I.n ∧ i = .int .i64 k ∧ DRel I B bh bs bl q w' k kv lv wr) (fun i _ _ _ => I.n - (intOf i).toNat)
  case atStart => exact ⟨0, Nat.zero_le _, rfl, h0⟩
  case round =>
    obtain ⟨i, hi, rfl, R⟩ := hrel
    clear h0 c0 c6 c8 sf st'
    have hkv := R.kv
    have hlv := R.lv
    subst hkv
    subst hlv
    by_cases hlt : i < I.n
    · obtain ⟨f, r, f1, f2⟩ := R.row
      obtain ⟨Hl, La, H, h1, h2⟩ := R.hl
      have ci := r.cell hlt
      rw [f2 i (Nat.le_refl _) hlt] at ci
      obtain ⟨q1, q2, q3, q4⟩ := P.qs i hlt
      have Rr : Rq wr (q i) bs (I.d i) (I.l i) (st i) := (P.rq i hlt).of_block (R.but.block (q i) q1 q2 q3 q4 (fun j hj e => by have := P.inj i j hlt (by omega) e; omega))
      obtain ⟨r0, r5, r7, r8, r10, r14⟩ := Rr.cells
      have hD : DurIs wr ad I.D := by
        refine ⟨fun j hj => ?_, P.dur.le, P.dur.len⟩
        obtain ⟨b, e1, e2⟩ := P.dur.at_ j hj
        obtain ⟨b1, b2, b3, b4, b5⟩ := P.durB b e1
        exact ⟨b, e1, (World.cell?_of_block (w := w') (R.but.block b b1 b2 b3 b4 (fun j hj => b5 j (by omega)))).trans e2⟩
      have CN := contains_any ad cd I.D (I.d i) wr hD
      have hlti : (i : Int) < (I.n : Int) := by omega
      have hdd := P.dd i hlt
      have kl := I.kept_len i
      have HH := (show Hid _ from (⟨P, R, H, h1, h2, Rr⟩ : _ ∧ _ ∧ _ ∧ _ ∧ _ ∧ _))
      clear hD P R H h1 h2 Rr
      by_cases hin : I.d i ∈ I.D
      · rw [decide_eq_true hin] at CN
        have hinn : I.inn i = true := by simp [Its.inn, hin]
        obtain ⟨P, R, H, h1, h2, Rr⟩ := HH.out
        have ltm := I.lt_mono (show i + 1 ≤ I.n by omega)
        have ctm := I.ct_mono (I.d i) (show i + 1 ≤ I.n by omega)
        have ltn := I.lt_le I.n
        have ctn := I.ct_le I.n (I.d i)
        have lle := I.lit_le i
        have cle := I.las_le i (I.d i)
        simp only [Its.lt] at ltm
        simp only [Its.ct, if_pos] at ctm
        have h2d := h2 (I.d i)
        have LaB : La (I.d i) ≤ 1024 := by omega
        have HlB : Hl ≤ 1024 := by omega
        obtain ⟨y, hy⟩ : ∃ y, La (I.d i) = y + 1 := ⟨La (I.d i) - 1, by omega⟩
        obtain ⟨n1, n2, n3⟩ := P.nes
        obtain ⟨p1, p2, p3⟩ := P.lts
        have sz := R.but.size
        have hB := P.hB
        have hn' := P.hn
        clear P R Rr h2d
        have qbh : bh ≠ q i := fun e => q2 e.symm
        by_cases hlo : I.lo = true
        · by_cases hli : I.l i = true
          · have hdrp : I.drp i = true := by simp [Its.drp, hinn, hlo, hli]
            rw [hli] at r7 ltm
            simp only [if_pos] at ltm
            obtain ⟨x, hx⟩ : ∃ x, Hl = x + 1 := ⟨Hl - 1, by omega⟩
            have c1 := H.c1
            rw [hx] at c1
            have z1 := H.fz 1
            have H1 := H.light x
            have c2 := H1.c2 (I.d i) hdd
            rw [hy] at c2
            have z2 := H1.fz (2 + I.d i)
            have H2 := H1.last (I.d i) y hdd
            have b2 : But [bh] wr ((wr.setCell ⟨bh, 1, none⟩ (.int .i64 (x : Int))).setCell ⟨bh, 2 + I.d i, none⟩ (.int .i64 (y : Int))) := ((But.refl _ _).set (by simp) _ _).set (by simp) _ _
            have HS := (show Hid _ from (⟨H2, b2⟩ : _ ∧ _))
            have hxB : x ≤ 1024 := by omega
            have hyB : y ≤ 1024 := by omega
            have HN := (show Hid _ from (⟨hx, hy, ltm, ctm, lle, cle⟩ : _ ∧ _ ∧ _ ∧ _ ∧ _ ∧ _))
            clear H1 H2 b2 H f1 f2 h1 h2 hx hy ltm ctm lle cle ltn ctn LaB HlB hin
            rw [hlo]
            simp only [Int.natCast_add, Int.cast_ofNat_Int] at c1 c2
            go_wp2_with fail
            refine CN.mono ?_
            rintro e w2 ⟨rfl, rfl⟩
            go_wp2_with fail
            have r5' : (w2.setCell ⟨bh, 1, none⟩ (.int .i64 (x : Int))).cell? ⟨q i, 5, none⟩ = some (.int .u8 (I.d i : Int)) := (World.cell?_of_block (w := w2) (Below.heap_setCell _ _ _ _ (by exact q2))).trans r5
            have r0' : (w2.setCell ⟨bh, 1, none⟩ (.int .i64 (x : Int))).cell? ⟨q i, 0, none⟩ = some (.pointer (some ⟨bs, 0, none⟩)) := (World.cell?_of_block (w := w2) (Below.heap_setCell _ _ _ _ (by exact q2))).trans r0
            clear r5 r0
            generalize w2.setCell ⟨bh, 1, none⟩ (.int .i64 (x : Int)) = W1 at c2 z2 HS r5' r0' ⊢
            clear c1 z1 CN r ci r7 r8 r10 r14
            go_region
            obtain ⟨H2, b2⟩ := HS.out
            have H3 := H2.of_block (w' := (W1.setCell ⟨bh, 2 + I.d i, none⟩ (.int .i64 (y : Int))).drew) rfl
            have b3 := b2.drew
            clear HS H2 b2 c2 z2 r5' r0'
            generalize (W1.setCell ⟨bh, 2 + I.d i, none⟩ (.int .i64 (y : Int))).drew = W at H3 b3 ⊢
            obtain ⟨P, R, H, h1, h2, Rr⟩ := HH.out
            have RqW := Rr.of_block (b3.block (q i) (by have := b3.size; omega) (by simpa using q2))
            have SpW := R.sp.of_but b3 (by simp; exact ⟨p1, n1⟩)
            have r0W := RqW.cells.1
            have RU := reuse_any W SpW RqW p2 q1 q3 (by have := b3.size; omega)
            have HF := (show Hid _ from (⟨H3, b3⟩ : _ ∧ _))
            clear H3 b3 P R H h1 h2 Rr RqW SpW
            go_wp2_with fail
            refine RU.mono ?_
            intro e w4 U
            obtain ⟨H3, b3⟩ := HF.out
            obtain ⟨P, R, H, h1, h2, Rr⟩ := HH.out
            obtain ⟨hx, hy, _⟩ := HN.out
            have D4 := DRel.drop P R hlt hdrp b3 h1 h2 H3 (by rw [hli]; first | (simp; omega) | simp) (by
              intro c
              by_cases e : c = I.d i
              · subst e; simp; omega
              · have e' : ¬ I.d i = c := fun a => e a.symm
                simp [e, e']) U
            obtain rfl := U.ret
            have HD := (show Hid _ from D4)
            clear D4 U H3 b3 P R H h1 h2 Rr HF RU HH HN r0W
            go_wp2_with fail
            go_roundw
            case rel => exact ⟨i + 1, by omega, by go_num, HD.out⟩
            case measure => simp [intOf]; omega
          · -- light locks alone, this one heavy
            have hli' : I.l i = false := by simpa using hli
            have hdrp : I.drp i = false := by simp [Its.drp, hinn, hlo, hli']
            rw [hli'] at r7
            rw [hlo]
            have K : ∀ w2, But [bl] wr w2 → w2.rowIs bl 41 I.n (fun j => if j = (I.kept i).length then .pointer (some ⟨q i, 0, none⟩) else f j) → Hid (DRel I B bh bs bl q w' (i + 1) (.slice (some ⟨bl, 0, none⟩) ((I.kept i).length + 1) I.n) (.bool true) w2) := by
              intro w2 hb hr
              have := DRel.keep HH.out.1 HH.out.2.1 hlt hdrp f1 f2 hb hr
              rw [hinn, Bool.or_true] at this
              exact this
            clear H f1 f2 h1 h2 hy ltm ctm lle cle ltn ctn LaB HlB hin HH
            go_wp2_with fail
            refine CN.mono ?_
            rintro e w2 ⟨rfl, rfl⟩
            go_wp2_with (at_builtin; refine wp_room w2 rfl _ _ rfl bl (I.kept i).length I.n f r (by omega) (some ⟨q i, 0, none⟩) _ rfl w2.heap.size rfl rfl rfl ?_; intro w3 rf3 hb3; have D3 := K w3 hb3 rf3; clear rf3 hb3)
            go_roundw
            case rel => exact ⟨i + 1, by omega, by go_num, D3.out⟩
            case measure => simp [intOf]; omega
        · have hlo' : I.lo = false := by simpa using hlo
          by_cases hli : I.l i = true
          · -- heavy locks, this one light
            have hdrp : I.drp i = false := by simp [Its.drp, hinn, hlo', hli]
            rw [hli] at r7
            rw [hlo']
            have K : ∀ w2, But [bl] wr w2 → w2.rowIs bl 41 I.n (fun j => if j = (I.kept i).length then .pointer (some ⟨q i, 0, none⟩) else f j) → Hid (DRel I B bh bs bl q w' (i + 1) (.slice (some ⟨bl, 0, none⟩) ((I.kept i).length + 1) I.n) (.bool true) w2) := by
              intro w2 hb hr
              have := DRel.keep HH.out.1 HH.out.2.1 hlt hdrp f1 f2 hb hr
              rw [hinn, Bool.or_true] at this
              exact this
            clear H f1 f2 h1 h2 hy ltm ctm lle cle ltn ctn LaB HlB hin HH
            go_wp2_with fail
            refine CN.mono ?_
            rintro e w2 ⟨rfl, rfl⟩
            go_wp2_with (at_builtin; refine wp_room w2 rfl _ _ rfl bl (I.kept i).length I.n f r (by omega) (some ⟨q i, 0, none⟩) _ rfl w2.heap.size rfl rfl rfl ?_; intro w3 rf3 hb3; have D3 := K w3 hb3 rf3; clear rf3 hb3)
            go_roundw
            case rel => exact ⟨i + 1, by omega, by go_num, D3.out⟩
            case measure => simp [intOf]; omega
          · have hli' : I.l i = false := by simpa using hli
            rw [hli'] at r7
            have P0 := HH.out.1
            cases hst : st i with
            | some a =>
              have hs : I.s i = true := by
                have := (P0.stn i hlt)
                rw [hst] at this
                simp [hli'] at this
                exact this
              have hdrp : I.drp i = false := by simp [Its.drp, hinn, hlo', hli', hs]
              rw [hst] at r14
              rw [hlo']
              clear P0
              have K : ∀ w2, But [bl] wr w2 → w2.rowIs bl 41 I.n (fun j => if j = (I.kept i).length then .pointer (some ⟨q i, 0, none⟩) else f j) → Hid (DRel I B bh bs bl q w' (i + 1) (.slice (some ⟨bl, 0, none⟩) ((I.kept i).length + 1) I.n) (.bool true) w2) := by
                intro w2 hb hr
                have := DRel.keep HH.out.1 HH.out.2.1 hlt hdrp f1 f2 hb hr
                rw [hinn, Bool.or_true] at this
                exact this
              clear H f1 f2 h1 h2 hy ltm ctm lle cle ltn ctn LaB HlB hin HH
              go_wp2_with fail
              refine CN.mono ?_
              rintro e w2 ⟨rfl, rfl⟩
              go_wp2_with (at_builtin; refine wp_room w2 rfl _ _ rfl bl (I.kept i).length I.n f r (by omega) (some ⟨q i, 0, none⟩) _ rfl w2.heap.size rfl rfl rfl ?_; intro w3 rf3 hb3; have D3 := K w3 hb3 rf3; clear rf3 hb3)
              go_roundw
              case rel => exact ⟨i + 1, by omega, by go_num, D3.out⟩
              case measure => simp [intOf]; omega
            | none =>
              have hs : I.s i = false := by
                have := (P0.stn i hlt)
                rw [hst] at this
                simp [hli'] at this
                exact this
              have hdrp : I.drp i = true := by simp [Its.drp, hinn, hlo', hli', hs]
              have hli := hli'
              rw [hst] at r14
              have hx : Hl = Hl := rfl
              have c1 := H.c1
              have z1 := H.fz 1
              have c2 := H.c2 (I.d i) hdd
              rw [hy] at c2
              have z2 := H.fz (2 + I.d i)
              have H2 := H.last (I.d i) y hdd
              have b2 : But [bh] wr (wr.setCell ⟨bh, 2 + I.d i, none⟩ (.int .i64 (y : Int))) := (But.refl _ _).set (by simp) _ _
              have HS := (show Hid _ from (⟨H2, b2⟩ : _ ∧ _))
              have hyB : y ≤ 1024 := by omega
              have HN := (show Hid _ from (⟨hx, hy, trivial⟩ : _ ∧ _ ∧ True))
              clear H2 b2 H f1 f2 h1 h2 hx hy ltm ctm lle cle ltn ctn LaB HlB hin P0
              rw [hlo']
              simp only [Int.natCast_add, Int.cast_ofNat_Int] at c2
              go_wp2_with fail
              refine CN.mono ?_
              rintro e w2 ⟨rfl, rfl⟩
              go_wp2_with fail
              have r5' := r5
              have r0' := r0
              clear r5 r0
              clear c1 z1 CN r ci r7 r8 r10 r14
              go_region
              obtain ⟨H2, b2⟩ := HS.out
              have H3 := H2.of_block (w' := (w2.setCell ⟨bh, 2 + I.d i, none⟩ (.int .i64 (y : Int))).drew) rfl
              have b3 := b2.drew
              clear HS H2 b2 c2 z2 r5' r0'
              generalize (w2.setCell ⟨bh, 2 + I.d i, none⟩ (.int .i64 (y : Int))).drew = W at H3 b3 ⊢
              obtain ⟨P, R, H, h1, h2, Rr⟩ := HH.out
              have RqW := Rr.of_block (b3.block (q i) (by have := b3.size; omega) (by simpa using q2))
              have SpW := R.sp.of_but b3 (by simp; exact ⟨p1, n1⟩)
              have r0W := RqW.cells.1
              have RU := reuse_any W SpW RqW p2 q1 q3 (by have := b3.size; omega)
              have HF := (show Hid _ from (⟨H3, b3⟩ : _ ∧ _))
              clear H3 b3 P R H h1 h2 Rr RqW SpW
              go_wp2_with fail
              refine RU.mono ?_
              intro e w4 U
              obtain ⟨H3, b3⟩ := HF.out
              obtain ⟨P, R, H, h1, h2, Rr⟩ := HH.out
              obtain ⟨hx, hy, _⟩ := HN.out
              have D4 := DRel.drop P R hlt hdrp b3 h1 h2 H3 (by rw [hli]; first | (simp; omega) | simp) (by
                intro c
                by_cases e : c = I.d i
                · subst e; simp; omega
                · have e' : ¬ I.d i = c := fun a => e a.symm
                  simp [e, e']) U
              obtain rfl := U.ret
              have HD := (show Hid _ from D4)
              clear D4 U H3 b3 P R H h1 h2 Rr HF RU HH HN r0W
              go_wp2_with fail
              go_roundw
              case rel => exact ⟨i + 1, by omega, by go_num, HD.out⟩
              case measure => simp [intOf]; omega
      · rw [decide_eq_false hin] at CN
        have hinn : I.inn i = false := by simp [Its.inn, hin]
        have hdrp : I.drp i = false := by simp [Its.drp, hinn]
        have K : ∀ w2, But [bl] wr w2 → w2.rowIs bl 41 I.n (fun j => if j = (I.kept i).length then .pointer (some ⟨q i, 0, none⟩) else f j) → Hid (DRel I B bh bs bl q w' (i + 1) (.slice (some ⟨bl, 0, none⟩) ((I.kept i).length + 1) I.n) (.bool (I.left i)) w2) := by
          intro w2 hb hr
          have := DRel.keep HH.out.1 HH.out.2.1 hlt hdrp f1 f2 hb hr
          rw [hinn, Bool.or_false] at this
          exact this
        go_wp2_with fail
        refine CN.mono ?_
        rintro e w2 ⟨rfl, rfl⟩
        go_wp2_with (at_builtin; refine wp_room w2 rfl _ _ rfl bl (I.kept i).length I.n f r (by omega) (some ⟨q i, 0, none⟩) _ rfl w2.heap.size rfl rfl rfl ?_; intro w3 rf3 hb3; have D3 := K w3 hb3 rf3; clear rf3 hb3)
        go_roundw
        case rel => exact ⟨i + 1, by omega, by go_num, D3.out⟩
        case measure => simp [intOf]; omega
    · obtain rfl : i = I.n := by omega
      obtain ⟨w0, rfl⟩ : ∃ w0, w0 = wr := ⟨wr, rfl⟩
      obtain ⟨f, r, f1, f2⟩ := R.row
      obtain ⟨Hl, La, H, h1, h2⟩ := R.hl
      have kl := I.kept_len I.n
      obtain ⟨n1, n2, n3⟩ := P.nes
      obtain ⟨p1, p2, p3⟩ := P.lts
      have hB : B ≤ w0.heap.size := Nat.le_trans P.hB R.but.size
      have hHl : Hl = I.lit I.n := by omega
      have hLa : La = I.las I.n := by funext c; have := h2 c; omega
      subst hHl
      subst hLa
      have HH := (show Hid _ from (⟨R.but, H, f1⟩ : _ ∧ _ ∧ _))
      have h0 : But [bl] w0 w0 ∧ ∃ g, w0.rowIs bl 41 I.n g ∧ ∀ j, j < (I.kept I.n).length → g j = f j := ⟨But.refl _ _, f, r, fun _ _ => rfl⟩
      have c0 := H.c0
      have hbhl : bh < w0.heap.size := by omega
      clear R r f2 h1 h2 P H
      generalize hkl : (I.kept I.n).length = kk at kl h0
      have HK := (show Hid _ from hkl)
      clear hkl hlt hi
      go_wp2_with fail
      go_loopw [15] (fun i wx => ∃ j : Nat, kk ≤ j ∧ j ≤ I.n ∧ i = .int .i64 j ∧ But [bl] w0 wx ∧ ∃ g, wx.rowIs bl 41 I.n g ∧ ∀ j, j < kk → g j = f j) (fun i _ => I.n - (intOf i).toNat)
      case atStart => exact ⟨kk, Nat.le_refl _, kl, rfl, h0⟩
      case round =>
        clear h0
        obtain ⟨j, hkj, hj, rfl, hb, g, rg, hg⟩ := hrel
        have eb := hb.block bh hbhl (by simpa using n2)
        have c0' : wr.cell? ⟨bh, 0, none⟩ = some (.slice (some ⟨bl, 0, none⟩) I.n I.n) := (World.cell?_of_block (w := w0) eb).trans c0
        by_cases hlt : j < I.n
        · have cj := rg.cell hlt
          have zj := rg.frozen j
          have hlti : (j : Int) < (I.n : Int) := by omega
          have hb' := hb.set (g := bl) (by simp) j (.pointer none)
          have rg' := rg.set j (.pointer none)
          have hg' : ∀ x, x < kk → (if x = j then Value.pointer none else g x) = f x := by
            intro x hx
            have : ¬ x = j := by omega
            rw [if_neg this]
            exact hg x hx
          have HS := (show Hid _ from (⟨hb', _, rg', hg'⟩ : But [bl] w0 (wr.setCell ⟨bl, j, none⟩ (.pointer none)) ∧ ∃ g, (wr.setCell ⟨bl, j, none⟩ (.pointer none)).rowIs bl 41 I.n g ∧ ∀ x, x < kk → g x = f x))
          clear hb' rg' hg' rg hg hb
          go_wp2_with fail
          go_roundw
          case rel => exact ⟨j + 1, by omega, by omega, by go_num, HS.out⟩
          case measure => simp [intOf]; omega
        · have hlti : ¬ (j : Int) < (I.n : Int) := by omega
          have SH := shrink_any bl kk I.n g wr rg kl hn (fun x hx => by
            rw [hg x hx, (HH.out.2.2) x (by have := HK.out; omega)]; rfl)
          have HG := (show Hid _ from (⟨hb, hg⟩ : _ ∧ _))
          have hws := hb.size
          clear rg hg hb
          go_wp2_with fail
          refine SH.mono ?_
          rintro e w3 ⟨hb3, b', cap', rfl, hc1, hc2, hcell⟩
          obtain ⟨hb, hg⟩ := HG.out
          obtain ⟨B0, H, f1⟩ := HH.out
          have H3 := H.of_block (((hb3.block bh (by omega) (by simp)).trans eb))
          have k0 := H3.c0
          have k1 := H3.fz 0
          have H4 := H3.list b' kk cap'
          have hK := HK.out
          have b3 : ButB B [bh, bs, bl] w0 (w3.setCell ⟨bh, 0, none⟩ (.slice (some ⟨b', 0, none⟩) kk cap')) :=
            ButB.set (((ButB.of hb hB).mono (by simp)).trans ((ButB.of hb3 (by omega)).mono (by simp))) (by simp) _ _
          have DD : Hid (Dropped I B bh bs bl q w' (.returned (.bool (I.left I.n))) (w3.setCell ⟨bh, 0, none⟩ (.slice (some ⟨b', 0, none⟩) kk cap'))) := by
            refine ⟨rfl, B0.more b3, b', cap', by rw [hK]; exact H4, by omega, hc2, ?_⟩
            intro x hx
            have hx' : x < kk := by omega
            have nb : b' ≠ bh := by
              rintro rfl
              have e0 := hcell 0 (by omega)
              rw [k0, hg 0 (by omega), f1 0 (by omega)] at e0
              cases e0
            rw [World.cell?_of_block (w := w3) (Below.heap_setCell _ _ _ _ (by exact nb)), hcell x hx', hg x hx', f1 x hx]
          clear hb hg B0 H f1 H3 H4 b3 SH HG HH HK hb3 hcell
          go_wp2_with fail
          go_ret
          exact DD.out
end Go.Proofs.Ybulkblio
