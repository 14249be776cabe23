/-
  Fill, Order.
-/
import Derived.Test.YbulkbldeNewW
import Derived.Deep.LoopGhost
namespace Go.Proofs.Ybulkblde
open Go.RowKit

/-- the walk stands on its way to T -/
structure WS (w : World) (bo n A : Nat) (bw bt bc bh br : Nat) (rows : Nat → List Nat) (T pl : List Nat) : Prop where
  st : ∃ wt, OW w bo n A bw bt bc bh br (fre n pl wt) wt pl ∧ ∀ i, i < n → wt i = deg rows pl n i
  way : Way rows n T pl

/-- 'Fill' where it looks at the next free node -/
structure GRel (w : World) (bo n A : Nat) (bw bt bc bh br : Nat) (rows : Nat → List Nat) (T : List Nat) (gk : Nat) (v : Value) (wr : World) : Prop where
  but : But [bw, bt, bc, br] w wr
  st : ∃ pl q, WS wr bo n A bw bt bc bh br rows T pl ∧ IsLow (fre n pl (deg rows pl n)) n q ∧ v = .int .i64 (if q = n then (-1 : Int) else q) ∧ pl.length + gk = n

set_option maxRecDepth 100000 in
set_option maxHeartbeats 4000000 in
theorem fill_any {bo n A : Nat} {bw bt bc bh br : Nat} {rows : Nat → List Nat} {T : List Nat} (w : World) (hn : n ≤ 255) (h : WS w bo n A bw bt bc bh br rows T []) (ho : Out w bo n A rows) (hA : A ≤ w.heap.size) :
    Calls Yba.prog 22 #[.pointer (some ⟨bw, 0, none⟩)] w fun e w' => e = .returned (.tuple #[]) ∧ But [bw, bt, bc, br] w w' ∧ WS w' bo n A bw bt bc bh br rows T T := by
  have hnext : ∀ wr pl, WS wr bo n A bw bt bc bh br rows T pl → But [bw, bt, bc, br] w wr → pl.length ≤ n →
      Calls Yba.prog 31 #[.pointer (some ⟨bw, 0, none⟩), .int .i64 (-1)] wr fun e w' => ∃ v, e = .returned v ∧ ∀ gk, pl.length + gk = n → GRel w bo n A bw bt bc bh br rows T gk v w' := by
    intro wr pl W hb hl
    obtain ⟨wt, o, hwt⟩ := W.st
    have e := fre_congr (pl := pl) hwt
    refine (nextFree_any wr hn o _ (low_isLow _ n)).mono ?_
    rintro e2 w' ⟨rfl, hb'⟩
    refine ⟨_, rfl, fun gk hgk => ⟨hb.trans (hb'.mono (by simp)), pl, low (fre n pl wt) n 0, ⟨⟨wt, o.keep hb', hwt⟩, W.way⟩, ?_, rfl, hgk⟩⟩
    rw [← e]; exact low_isLow _ n
  have hN0 := hnext w [] h (But.refl _ _) (by simp)
  obtain ⟨wt0, o0, _⟩ := h.st
  have LA : ∀ x, x ∈ [bw, bt, bc, br] → A ≤ x := by
    intro x hx
    simp at hx
    rcases hx with rfl | rfl | rfl | rfl
    · exact o0.lw
    · exact o0.lt
    · exact o0.lc
    · exact o0.lr
  clear h o0
  go_enter Yba.func22, Yba.ntmps22
  go_wp2_with fail
  refine hN0.mono ?_
  rintro e w1 ⟨v, rfl, g0⟩
  have G0 := g0 n (by simp)
  clear g0 hN0
  go_wp2_with fail
  go_loopg [2] n (fun gk v wr => GRel w bo n A bw bt bc bh br rows T gk v wr)
  case atStart => exact G0
  case round =>
    obtain ⟨hb, pl, q, W, hq, rfl, hgk⟩ := hrel
    clear G0
    by_cases hqn : q = n
    · subst hqn
      have hT := W.way.stop hq
      have HS := (show Hid _ from (⟨hb, hT, W⟩ : _ ∧ _ ∧ _))
      clear hb W hq hT hgk hnext
      simp only [if_pos]
      go_wp2_with fail
      go_end0
      obtain ⟨hb, hT, W⟩ := HS.out
      exact ⟨rfl, hb, by rw [hT]; rw [hT] at W; exact W⟩
    · have hqlt : q < n := by have := hq.le; omega
      obtain ⟨hl, W'⟩ := W.way.next hq hqlt
      obtain ⟨wt, o, hwt⟩ := W.st
      have hsz := hb.size
      have P := place_any wr hn o (ho.below (hb.below hA LA)) (by omega) hwt W.way.ord q (by rw [fre_congr hwt]; exact hq.yes hqlt) hl
      have HS := (show Hid _ from (⟨hb, hgk, W', hl⟩ : _ ∧ _ ∧ _ ∧ _))
      simp only [if_neg hqn]
      have hq0 : (0 : Int) ≤ (q : Int) := by omega
      clear hb W hq hgk hl W' o hwt hsz
      go_wp2_with fail
      refine P.mono ?_
      rintro e w2 ⟨rfl, hb2, wt2, o2, hwt2⟩
      obtain ⟨hb, hgk, W', hl⟩ := HS.out
      obtain ⟨g, rfl⟩ : ∃ g, gk = g + 1 := ⟨gk - 1, by omega⟩
      have hN := hnext w2 (pl ++ [q]) ⟨⟨wt2, o2, hwt2⟩, W'⟩ (hb.trans hb2) (by simp; omega)
      have hgk' : (pl ++ [q]).length + g = n := by simp; omega
      have HK := (show Hid _ from hgk')
      clear HS hb hgk W' hl hb2 o2 hwt2 P hgk'
      go_wp2_with fail
      refine hN.mono ?_
      rintro e w3 ⟨v, rfl, g3⟩
      have G3 := g3 g HK.out
      clear g3 hN HK
      go_wp2_with fail
      go_roundg (g)
      case measure => omega
      case rel => exact G3

set_option maxRecDepth 100000 in
set_option maxHeartbeats 1000000 in
theorem order_any {bw br l n : Nat} (w : World) (h : w.cell? ⟨bw, 6, none⟩ = some (.slice (some ⟨br, 0, none⟩) l n)) :
    Calls Yba.prog 23 #[.pointer (some ⟨bw, 0, none⟩)] w fun e w' => e = .returned (.slice (some ⟨br, 0, none⟩) l n) ∧ w' = w := by
  go_enter Yba.func23, Yba.ntmps23
  go_wp2_with fail
  go_ret
  exact ⟨rfl, rfl⟩
end Go.Proofs.Ybulkblde
