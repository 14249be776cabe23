/-
  CONTRACTS: slices.Clone at ints and at steps, slices.Equal at ints.
-/
import Derived.Test.YbulkbldeAround
import Derived.Deep.AppendLies
namespace Go.Proofs.Ybulkblde
open Go.RowKit

theorem Yba.info32 : (Yba.prog.info? 32).map (fun i => (i.zero, i.size, i.bytes)) = some (some (.agg #[.int .u8 0, .int .i64 0, .string ByteArray.empty]), 3, 32) := by kernel_rfl

/-- What a clone leaves: the same cells in new memory. -/
structure Cloned (w : World) (g c : Nat) (f : Nat → Value) (w' : World) : Prop where
  bel : Below w.heap.size w w'
  lt : w.heap.size ≤ g
  size : g < w'.heap.size
  cell : ∀ i, i < c → w'.cell? ⟨g, i, none⟩ = some (f i)

theorem news_of {w : World} {b c : Nat} {t : TypeId} {f : Nat → Value} (h : w.rowIs b t c f) : ∀ j u, ((List.range c).map f)[j]? = some u → w.cell? ((⟨b, 0, none⟩ : Addr).add j) = some u := by
  intro j u hj
  have e : (⟨b, 0, none⟩ : Addr).add j = ⟨b, j, none⟩ := by unfold Addr.add; split <;> simp_all
  rw [e]
  by_cases hjn : j < c
  · simp [hjn] at hj
    subst hj
    exact h.cell hjn
  · simp [hjn] at hj

theorem cloned_of {w w1 w' : World} {g cap size n c : Nat} {t : TypeId} {f : Nat → Value} (hc : c = n * size) (hb : Below w.heap.size w w1) (hs : w1.heap.size = w.heap.size + 1)
    (hown : w'.ownsRow w.heap.size t size (.slice (some ⟨g, 0, none⟩) n cap) n ((List.range c).map f)) (hg : w1.grownBy w' (some w.heap.size)) (hlt : g < w'.heap.size) (hgl : w.heap.size ≤ g) : Cloned w g c f w' := by
  refine ⟨hb.grown hg (by omega) (by intro k hk; simp at hk; omega), hgl, hlt, ?_⟩
  intro i hi
  rw [hown.cellAt i (by omega)]
  simp [hi]

set_option maxRecDepth 100000 in
set_option maxHeartbeats 1000000 in
theorem clone_ints (b n : Nat) (f : Nat → Value) (hn : 0 < n) (hn' : n ≤ 1000) (w : World) (row : w.rowIs b 3 n f) (h1 : ∀ i, i < n → (f i).oneCell' = true) :
    Calls Yba.prog 8 #[.slice (some ⟨b, 0, none⟩) n n] w fun e w' => ∃ g cap, e = .returned (.slice (some ⟨g, 0, none⟩) n cap) ∧ Cloned w g n f w' := by
  have hnl := fun w (x : Addr) (l c : Nat) => Lib.run_eql_slice_nil (P := Yba.prog) w 34 3 (some x) l c 0 0 Yba.underlying34
  obtain ⟨i0, hi, hz0, hz1, hz2⟩ := info_parts Yba.info3'
  have hown : (w.alloc (.cells #[] 3)).ownsRow w.heap.size 3 1 (.slice (some ⟨w.heap.size, 0, none⟩) 0 0) 0 [] := World.ownsRow_lit w #[] 0 (Nat.le_refl _) (by unfold maxLen; omega) rfl
  have row2 := row.alloc (.cells #[] 3)
  have hnews := news_of row2
  have h1c : ∀ u ∈ (List.range n).map f, u.oneCell' = true := by
    intro u hu
    simp only [List.mem_map, List.mem_range] at hu
    obtain ⟨i, hi, rfl⟩ := hu
    exact h1 i hi
  have hb : Below w.heap.size w (w.alloc (.cells #[] 3)) := (Below.refl _ _).alloc (Nat.le_refl _) _
  have hsz : (w.alloc (.cells #[] 3)).heap.size = w.heap.size + 1 := by simp
  have HB : Hid (Below w.heap.size w (w.alloc (.cells #[] 3)) ∧ (w.alloc (.cells #[] 3)).heap.size = w.heap.size + 1) := ⟨hb, hsz⟩
  clear row row2 h1 hb hsz
  go_enter Yba.func8, Yba.ntmps8
  go_wp2_with (at_builtin; refine wpList_append_lies _ rfl _ _ _ rfl w.heap.size 3 i0 (.int .i64 0) 1 8 Yba.underlying34 hi hz0 hz1 hz2 rfl (by omega) _ 0 [] rfl hown ⟨b, 0, none⟩ n n ((List.range n).map f) rfl (by simp) hnews h1c hn (by unfold maxLen; omega) (by omega) (by simp) (w.heap.size + 1) (by simp) ?_; intro g cap w1 o1 g1 a1 l1)
  go_ret
  refine ⟨g, cap, ?_, ?_⟩
  · simp
  · have o2 : w1.ownsRow w.heap.size 3 1 (.slice (some ⟨g, 0, none⟩) n cap) n ((List.range n).map f) := by simpa using o1
    refine cloned_of (c := n) (by omega) HB.out.1 HB.out.2 o2 g1 l1 ?_
    rcases a1 with a1 | a1
    · exact Nat.le_of_eq (Option.some.inj a1)
    · omega

set_option maxRecDepth 100000 in
set_option maxHeartbeats 1000000 in
theorem clone_steps (b n : Nat) (f : Nat → Value) (hn : 0 < n) (hn' : n ≤ 1000) (w : World) (row : w.rowIs b 32 (n * 3) f) (h1 : ∀ i, i < n * 3 → (f i).oneCell' = true) :
    Calls Yba.prog 7 #[.slice (some ⟨b, 0, none⟩) n n] w fun e w' => ∃ g cap, e = .returned (.slice (some ⟨g, 0, none⟩) n cap) ∧ Cloned w g (n * 3) f w' := by
  have hnl := fun w (x : Addr) (l c : Nat) => Lib.run_eql_slice_nil (P := Yba.prog) w 28 32 (some x) l c 0 0 Yba.underlying28
  obtain ⟨i0, hi, hz0, hz1, hz2⟩ := info_parts Yba.info32
  have hown : (w.alloc (.cells #[] 32)).ownsRow w.heap.size 32 3 (.slice (some ⟨w.heap.size, 0, none⟩) 0 0) 0 [] := World.ownsRow_lit w #[] 0 (Nat.le_refl _) (by unfold maxLen; omega) rfl
  have row2 := row.alloc (.cells #[] 32)
  have hnews := news_of row2
  have h1c : ∀ u ∈ (List.range (n * 3)).map f, u.oneCell' = true := by
    intro u hu
    simp only [List.mem_map, List.mem_range] at hu
    obtain ⟨i, hi, rfl⟩ := hu
    exact h1 i hi
  have hb : Below w.heap.size w (w.alloc (.cells #[] 32)) := (Below.refl _ _).alloc (Nat.le_refl _) _
  have hsz : (w.alloc (.cells #[] 32)).heap.size = w.heap.size + 1 := by simp
  have HB : Hid (Below w.heap.size w (w.alloc (.cells #[] 32)) ∧ (w.alloc (.cells #[] 32)).heap.size = w.heap.size + 1) := ⟨hb, hsz⟩
  clear row row2 h1 hb hsz
  go_enter Yba.func7, Yba.ntmps7
  go_wp2_with (at_builtin; refine wpList_append_lies _ rfl _ _ _ rfl w.heap.size 32 i0 (.agg #[.int .u8 0, .int .i64 0, .string ByteArray.empty]) 3 32 Yba.underlying28 hi hz0 hz1 hz2 rfl (by omega) _ 0 [] rfl hown ⟨b, 0, none⟩ n n ((List.range (n * 3)).map f) rfl (by simp) hnews h1c hn (by unfold maxLen; omega) (by omega) (by simp) (w.heap.size + 1) (by simp) ?_; intro g cap w1 o1 g1 a1 l1)
  go_ret
  refine ⟨g, cap, ?_, ?_⟩
  · simp
  · have o2 : w1.ownsRow w.heap.size 32 3 (.slice (some ⟨g, 0, none⟩) n cap) n ((List.range (n * 3)).map f) := by simpa using o1
    refine cloned_of (c := n * 3) rfl HB.out.1 HB.out.2 o2 g1 l1 ?_
    rcases a1 with a1 | a1
    · exact Nat.le_of_eq (Option.some.inj a1)
    · omega

set_option maxRecDepth 100000 in
set_option maxHeartbeats 1000000 in
theorem equal_ints (b g n cap : Nat) (f : Nat → Int) (hn' : n ≤ 1000) (w : World) (c1 : ∀ i, i < n → w.cell? ⟨b, i, none⟩ = some (.int .i64 (f i))) (c2 : ∀ i, i < n → w.cell? ⟨g, i, none⟩ = some (.int .i64 (f i))) :
    Calls Yba.prog 10 #[.slice (some ⟨b, 0, none⟩) n n, .slice (some ⟨g, 0, none⟩) n cap] w fun e w' => e = .returned (.bool true) ∧ ∃ q, w' = w.drewN q := by
  have hnn : ((n : Int) != (n : Int)) = false := by simp
  go_enter Yba.func10, Yba.ntmps10
  go_wp2_with fail
  go_loopw [13] (fun i wr => ∃ d : Nat, d ≤ n ∧ i = .int .i64 d ∧ ∃ q, wr = w.drewN q) (fun i _ => n - (intOf i).toNat)
  case atStart => exact ⟨0, Nat.zero_le _, rfl, 0, rfl⟩
  case round =>
    obtain ⟨d, hd, rfl, q, rfl⟩ := hrel
    by_cases hlt : d < n
    · have x1 := c1 d hlt
      have x2 := c2 d hlt
      clear c1 c2
      go_wp2_with fail
      go_quiet (fail)
      go_wp2_with fail
      go_roundw
      case rel => exact ⟨d + 1, by omega, by go_num, _, rfl⟩
      case measure => simp [intOf]; omega
    · clear c1 c2
      go_wp2_with fail
      go_ret
      exact ⟨rfl, q, rfl⟩
end Go.Proofs.Ybulkblde
