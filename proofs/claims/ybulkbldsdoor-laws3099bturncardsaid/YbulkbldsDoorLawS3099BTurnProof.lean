/-
  LawS3099BTurn: the row, and the tied card.
-/
import Derived.Test.YbulkbldsDoorCards
import Derived.Test.YbulkbldsDoorTie
import Derived.Test.YbulkbldsDoorLaid
import Derived.Test.YbulkbldsDoorLaw0
import Derived.SevenTiedAt
namespace Go.Proofs.YbulkbldsDoor.lawS3099BTurn
open Go.ChangeShapes Go.WideShapes Go.ChangeAt Go.RowKit

set_option maxRecDepth 100000 in
theorem lifted (os : Os) (started : os.Started) (H : Type) (enc : TypeId × Value → H) :
    ReturnsInHanded {} Ybad.checked os 6 .any (fun w args => (Rows.lawS3099BTurnSpec.pre enc Ybad.prog Ybad.f6 [] false w args ∧ laidMetH Ybad.prog laidVars w) ∧ sizedMet enc Ybad.prog Ybad.f6 (OpenSpec.ofChange Rows.lawS3099BTurnSpec) false w args)
      (Rows.lawS3099BTurnSpec.post enc Ybad.prog Ybad.f6 false true false false) := by
  refine returnsInHanded_of_change_and (C := Ybad.checked) (X := fun w _ => laidMetH Ybad.prog laidVars w) (fun _ _ _ hh h => h.of_heap hh) own started (by kernel_rfl) Ybad.func6
    (ChangeSpec.witness_at (enc := enc) (C := Ybad.checked) (os := os) (X := fun w _ => laidMetH Ybad.prog laidVars w) false (laidWorldOf Ybad.prog os) #[.int .u8 0, .int .u8 0, .int .u8 0, .int .u8 0, .int .u8 0, .bool false, .int .u8 0, .int .i64 0, .int .i64 0] 8 rfl (by kernel_rfl) (by kernel_rfl) (by kernel_rfl) (by kernel_rfl) (by kernel_rfl) (laidH_met os _)) ?_
  intro W base args ds gs before hval0 hW _ _ hL _
  have hval : ∀ (j : Nat) t v, Ybad.f6.params[j]? = some t → args[j]? = some v → Value.okWide Ybad.prog W .any base t v := hval0
  have hW' := hW
  obtain ⟨p, q, hA0, hV, rfl, hfz, hnd⟩ := hW
  have hA : DataW.TrodAll enc Ybad.prog W 0 (fun _ => true) true Ybad.f6.params.toList args.toList ds p := hA0
  rw [Ybad.params6] at hA hval
  obtain ⟨v0, vs0, d0, ds0, p0, q0, hargs, rfl, rfl, h0, r0⟩ := trodAll_cons hA
  obtain ⟨v1, vs1, d1, ds1, p1, q1, rfl, rfl, rfl, h1, r1⟩ := trodAll_cons r0
  obtain ⟨v2, vs2, d2, ds2, p2, q2, rfl, rfl, rfl, h2, r2⟩ := trodAll_cons r1
  obtain ⟨v3, vs3, d3, ds3, p3, q3, rfl, rfl, rfl, h3, r3⟩ := trodAll_cons r2
  obtain ⟨v4, vs4, d4, ds4, p4, q4, rfl, rfl, rfl, h4, r4⟩ := trodAll_cons r3
  obtain ⟨v5, vs5, d5, ds5, p5, q5, rfl, rfl, rfl, h5, r5⟩ := trodAll_cons r4
  obtain ⟨v6, vs6, d6, ds6, p6, q6, rfl, rfl, rfl, h6, r6⟩ := trodAll_cons r5
  obtain ⟨v7, vs7, d7, ds7, p7, q7, rfl, rfl, rfl, h7, r7⟩ := trodAll_cons r6
  obtain ⟨v8, vs8, d8, ds8, p8, q8, rfl, rfl, rfl, h8, r8⟩ := trodAll_cons r7
  obtain ⟨rfl, rfl, rfl⟩ := trodAll_nil r8
  obtain rfl : args = #[v0, v1, v2, v3, v4, v5, v6, v7, v8] := by cases args; simp_all
  obtain ⟨rfl, rfl⟩ := trodVars_none hV
  obtain ⟨a0, rfl, rfl, rfl, w0⟩ := open_int Ybad.underlying5 (hval 0 5 v0 rfl rfl) h0
  obtain ⟨a1, rfl, rfl, rfl, w1⟩ := open_int Ybad.underlying5 (hval 1 5 v1 rfl rfl) h1
  obtain ⟨a2, rfl, rfl, rfl, w2⟩ := open_int Ybad.underlying5 (hval 2 5 v2 rfl rfl) h2
  obtain ⟨a3, rfl, rfl, rfl, w3⟩ := open_int Ybad.underlying5 (hval 3 5 v3 rfl rfl) h3
  obtain ⟨a4, rfl, rfl, rfl, w4⟩ := open_int Ybad.underlying5 (hval 4 5 v4 rfl rfl) h4
  obtain ⟨a5, rfl, rfl, rfl⟩ := open_bool Ybad.underlying4 (hval 5 4 v5 rfl rfl) h5
  obtain ⟨a6, rfl, rfl, rfl, w6⟩ := open_int Ybad.underlying5 (hval 6 5 v6 rfl rfl) h6
  obtain ⟨a7, rfl, rfl, rfl, w7⟩ := open_int Ybad.underlying3 (hval 7 3 v7 rfl rfl) h7
  obtain ⟨a8, rfl, rfl, rfl, w8⟩ := open_int Ybad.underlying3 (hval 8 3 v8 rfl rfl) h8
  clear hA0 hval0
  simp only [List.append_nil] at hW'
  have b0 := bounds_u8 w0
  obtain ⟨x0, rfl⟩ : ∃ x : Nat, a0 = (x : Int) := ⟨a0.toNat, by omega⟩
  have b1 := bounds_u8 w1
  obtain ⟨x1, rfl⟩ : ∃ x : Nat, a1 = (x : Int) := ⟨a1.toNat, by omega⟩
  have b2 := bounds_u8 w2
  obtain ⟨x2, rfl⟩ : ∃ x : Nat, a2 = (x : Int) := ⟨a2.toNat, by omega⟩
  have b3 := bounds_u8 w3
  obtain ⟨x3, rfl⟩ : ∃ x : Nat, a3 = (x : Int) := ⟨a3.toNat, by omega⟩
  have b4 := bounds_u8 w4
  obtain ⟨x4, rfl⟩ : ∃ x : Nat, a4 = (x : Int) := ⟨a4.toNat, by omega⟩
  have b6 := bounds_u8 w6
  obtain ⟨x6, rfl⟩ : ∃ x : Nat, a6 = (x : Int) := ⟨a6.toNat, by omega⟩
  refine (turn_any x0 x1 x2 x3 x4 x6 a5 a7 a8 (by omega) (by omega) (by omega) (by omega) (by omega) (by omega) W).mono fun e W' ⟨he, bel⟩ => ?_
  subst he
  exact ⟨_, rfl, _, _, _, [], _, [], hW', trodAll_mk1 (shut_bool Ybad.underlying4 _), (trodAll_cons_mk (shut_int Ybad.underlying5 w0) (trodAll_cons_mk (shut_int Ybad.underlying5 w1) (trodAll_cons_mk (shut_int Ybad.underlying5 w2) (trodAll_cons_mk (shut_int Ybad.underlying5 w3) (trodAll_cons_mk (shut_int Ybad.underlying5 w4) (trodAll_cons_mk (shut_bool Ybad.underlying4 _) (trodAll_cons_mk (shut_int Ybad.underlying5 w6) (trodAll_cons_mk (shut_int Ybad.underlying3 w7) (trodAll_cons_mk (shut_int Ybad.underlying3 w8) trodAll_mk0))))))))), rfl, bel.frame _, fun h => by cases h⟩

theorem over : Rows.LawS3099BTurnSaid :=
  OpenClaim.holds_of_wide 6 Ybad.f6 rfl rfl rfl rfl rfl rfl rfl ⟨rfl, rfl, rfl, rfl, rfl⟩ rfl rfl rfl rfl rfl (by kernel_rfl) Ybad.func6 (by kernel_rfl)
    (of_decide_eq_true (by kernel_rfl)) (by unfold Func.isWrapper; first | (rw [if_pos (by decide +kernel)]; kernel_rfl) | (rw [if_neg (by decide +kernel)]; exact ⟨rfl, rfl⟩))
    (fun os started H enc _ => lifted os started H enc)

/-- ████ THE CARD ████ -/
theorem proved : Rows.LawS3099BTurnCardSaid :=
  Claim7.holds_tied_plain_at .later [] [.data, .data, .data, .sentinel] true (true, "4a02b35f3fc5deb67c0640919b5f4897e14ce2a7936bd32d1a2e4c9f71fb74b0") true
    over (fun _ h => by cases h) (by kernel_rfl) (fun _ h => by cases h) lawS3099BTurn_row_tie rfl ⟨rfl, rfl⟩ (by kernel_rfl) rfl
    (fun f fn hf hfn => by
      obtain rfl : f = 6 := Option.some.inj ((show Ybad.prog.funcNamed Rows.lawS3099BTurnRow.func = some 6 by kernel_rfl).symm.trans hf) |>.symm
      obtain rfl : fn = Ybad.f6 := (Option.some.inj (Ybad.func6.symm.trans hfn)).symm
      exact ⟨by kernel_rfl, fun j t ht => by
        rw [Ybad.params6] at ht
        have h3 : t = 5 ∨ t = 4 ∨ t = 3 := by
          rcases j with _ | _ | _ | _ | _ | _ | _ | _ | _ | j
          · left; simpa using ht.symm
          · left; simpa using ht.symm
          · left; simpa using ht.symm
          · left; simpa using ht.symm
          · left; simpa using ht.symm
          · right; left; simpa using ht.symm
          · left; simpa using ht.symm
          · right; right; simpa using ht.symm
          · right; right; simpa using ht.symm
          · simp at ht
        rcases h3 with rfl | rfl | rfl
        · exact (show Ybad.prog.wantsStandIn 5 = false by kernel_rfl)
        · exact (show Ybad.prog.wantsStandIn 4 = false by kernel_rfl)
        · exact (show Ybad.prog.wantsStandIn 3 = false by kernel_rfl)⟩)
    (by kernel_rfl)
#print axioms proved
end Go.Proofs.YbulkbldsDoor.lawS3099BTurn
