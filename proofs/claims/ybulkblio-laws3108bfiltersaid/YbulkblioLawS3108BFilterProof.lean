/-
  A PROOF OF 'Rows.LawS3108BFilterSaid' ('example.com/dictlock/dictlock.LawS3108BFilter'): after the guide's own way (howto/template/XProofs.lean; Derived/Test/ChunkProofs.lean for 'Below'); the slice of structs is opened by 'DataW.trod_slice' and 'DataW.trod_struct'.
-/
import Derived.Test.YbulkblioRows
import Derived.WalkKit
import Derived.ProofKit
import Derived.OpenShut
import Derived.ShutString
import Derived.ChangeOld
import Derived.Below
import Derived.Test.YbulkblioLaw
namespace Go.Proofs.Ybulkblio.lawS3108BFilter
open Go.ChangeShapes Go.WideShapes Go.ChangeAt Go.RowKit
open Go.ChangeMaps (open_string shut_string)
set_option linter.unusedVariables false

theorem own : ownKnob Yba.prog.godebug = none := by kernel_rfl
theorem laidOut : laidOutB Yba.prog = true := by kernel_rfl
theorem cells60 : Yba.prog.cellsOf 60 = 3 := by kernel_rfl
theorem cells5 : Yba.prog.cellsOf 5 = 1 := by kernel_rfl
theorem cells4 : Yba.prog.cellsOf 4 = 1 := by kernel_rfl

/-- one lock of the slice that came in, at its place in memory -/
structure ItemAt (w : World) (a : Option Addr) (i : Nat) (b off z : Nat) (l s : Bool) : Prop where
  at_ : a = some ⟨b, off, none⟩
  lt : b < w.heap.size
  cz : w.cell? ⟨b, off + i * 3, none⟩ = some (.int .u8 (z : Int))
  zb : z ≤ 255
  cl : w.cell? ⟨b, off + i * 3 + 1, none⟩ = some (.bool l)
  cs : w.cell? ⟨b, off + i * 3 + 2, none⟩ = some (.bool s)

/-- WHAT THE WALK IS TOLD OF THE SLICE OF STRUCTS THAT CAME IN -/
def IsItems (w : World) (a : Option Addr) (len : Nat) : Prop := ∀ i, i < len → ∃ b off z l s, ItemAt w a i b off z l s

theorem items_of {H : Type} {enc : TypeId × Value → H} {w : World} {base : Nat} {sp : Nat → Bool} {held : Bool} {fuel : Nat} {a : Option Addr} {len cap : Nat} {x : DataW H × List MemPlace}
    (h : DataW.trod enc Yba.prog w base sp held fuel 22 [.slice a len cap] = some x) : IsItems w a len := by
  intro i hi
  rcases DataW.trod_slice Yba.underlying22 h with ⟨h0, _⟩ | ⟨ad, len', cap', elems, rest, n, _, hcs, _, _, _, _, hlen, hel, _, _⟩
  · simp at h0; omega
  · simp at hcs
    obtain ⟨rfl, rfl, rfl⟩ := hcs
    have key : ∀ i, i < len → ∃ (z : Int) (l s : Bool), (Lit.int .u8 z).wf = true ∧ w.cell? ((ad.add (i * 3)).add 0) = some (.int .u8 z) ∧ w.cell? ((ad.add (i * 3)).add 1) = some (.bool l) ∧ w.cell? ((ad.add (i * 3)).add 2) = some (.bool s) := by
      intro i hi
      have he := hel i hi
      rw [cells60] at he
      have hsome : ∃ y, elems[i]? = some y := ⟨_, List.getElem?_eq_getElem (by omega)⟩
      obtain ⟨y, hy⟩ := hsome
      rw [hy, Option.bind_eq_some_iff] at he
      obtain ⟨cs, hc, ht⟩ := he
      obtain ⟨_, hcl, hcell⟩ := World.cells?_some hc
      obtain ⟨xs, m, _, _, _, hxl, hf⟩ := DataW.trod_struct Yba.underlying60 ht
      simp at hxl
      have g0 : DataW.trod enc Yba.prog w base sp held m 5 (List.take (Yba.prog.cellsOf 5) (List.drop 0 cs)) = xs[0]? := hf 0 _ rfl
      have g1 : DataW.trod enc Yba.prog w base sp held m 4 (List.take (Yba.prog.cellsOf 4) (List.drop 1 cs)) = xs[1]? := hf 1 _ rfl
      have g2 : DataW.trod enc Yba.prog w base sp held m 4 (List.take (Yba.prog.cellsOf 4) (List.drop 2 cs)) = xs[2]? := hf 2 _ rfl
      rw [cells5] at g0
      rw [cells4] at g1 g2
      clear hf hel h ht hc
      match cs, hcl with
      | [c0, c1, c2], _ =>
        match xs, hxl with
        | [y0, y1, y2], _ =>
          simp at g0 g1 g2
          obtain ⟨z, e0, _, wz⟩ := DataW.trod_int Yba.underlying5 g0
          obtain ⟨l, e1, _⟩ := DataW.trod_bool Yba.underlying4 g1
          obtain ⟨s, e2, _⟩ := DataW.trod_bool Yba.underlying4 g2
          simp at e0 e1 e2
          subst e0
          subst e1
          subst e2
          exact ⟨z, l, s, wz, hcell 0 (by omega), hcell 1 (by omega), hcell 2 (by omega)⟩
    obtain ⟨b, off, spot⟩ := ad
    have hspot : spot = none := by
      obtain ⟨z, l, s, _, k0, _⟩ := key 0 (by omega)
      simpa [Addr.add] using World.cell?_spot k0
    subst hspot
    obtain ⟨z, l, s, wz, k0, k1, k2⟩ := key i hi
    rw [add_plain, add_plain] at k0 k1 k2
    obtain ⟨z1, z2⟩ := bounds_u8 wz
    obtain ⟨zn, rfl⟩ : ∃ zn : Nat, z = zn := ⟨z.toNat, by omega⟩
    exact ⟨b, off, zn, l, s, rfl, cell_lt k0, k0, by omega, k1, k2⟩

/-- the locks' numbers and marks, read off memory -/
def zOf (w : World) (a : Option Addr) (i : Nat) : Nat := match a with
  | some ⟨b, off, _⟩ => match w.cell? ⟨b, off + i * 3, none⟩ with
    | some (.int _ x) => x.toNat
    | _ => 0
  | none => 0
def lOf (w : World) (a : Option Addr) (i k : Nat) : Bool := match a with
  | some ⟨b, off, _⟩ => match w.cell? ⟨b, off + i * 3 + k, none⟩ with
    | some (.bool x) => x
    | _ => false
  | none => false

theorem walk (a0 : Option Addr) (len0 cap0 : Nat) (a1 : Int) (a2 : Bool) (w : World) (w0 : IsItems w a0 len0) (w1 : (Lit.int .u8 a1).wf = true) :
    Calls Yba.prog 3 #[.slice a0 len0 cap0, .int .u8 a1, .bool a2] w fun e w' => e = .returned (.bool true) ∧ Below w.heap.size w w' := by
  by_cases hn : 1024 < len0
  · refine (filter_long a0 len0 cap0 a1 a2 w hn).mono ?_
    rintro e w' ⟨rfl, rfl⟩
    exact ⟨rfl, Below.refl _ _⟩
  · obtain ⟨x1, x2⟩ := bounds_u8 w1
    obtain ⟨m, rfl⟩ : ∃ m : Nat, a1 = m := ⟨a1.toNat, by omega⟩
    have each : ∀ i, i < len0 → ∃ b off, ItemAt w a0 i b off (zOf w a0 i) (lOf w a0 i 1) (lOf w a0 i 2) := by
      intro i hi
      obtain ⟨b, off, z, l, s, I⟩ := w0 i hi
      have ez : zOf w a0 i = z := by simp [zOf, I.at_, I.cz]
      have el : lOf w a0 i 1 = l := by simp [lOf, I.at_, I.cl]
      have es : lOf w a0 i 2 = s := by simp [lOf, I.at_, I.cs]
      rw [ez, el, es]
      exact ⟨b, off, I⟩
    refine filter_row a0 len0 cap0 (zOf w a0) (fun i => lOf w a0 i 1) (fun i => lOf w a0 i 2) m a2 a2 (show a2 = a2 from rfl) w (by omega) (by omega) ?_ ?_
    · intro i hi
      obtain ⟨b, off, I⟩ := each i hi
      exact I.zb
    · intro i hi
      obtain ⟨b, off, I⟩ := each i hi
      exact ⟨b, off, I.at_, I.lt, I.cz, I.cl, I.cs⟩

/-! ### THE ROW's STEP: WRITTEN OUT: LEAVE IT -/
set_option maxRecDepth 100000 in
theorem lifted (os : Os) (started : os.Started) (H : Type) (enc : TypeId × Value → H) :
    ReturnsInHanded {} Yba.checked os 3 .any (Rows.lawS3108BFilterSpec.pre6 enc Yba.prog Yba.f3 Rows.lawS3108BFilterRow.domain false) (Rows.lawS3108BFilterSpec.post enc Yba.prog Yba.f3 false true false false) := by
  refine returnsInHanded_of_change (C := Yba.checked) own started (by kernel_rfl) Yba.func3
    (ChangeSpec.witness6 (enc := enc) (C := Yba.checked) false ⟨#[], #[.slice none 0 0, .int .u8 0, .bool false], []⟩ 8 (by kernel_rfl) (by kernel_rfl) (by kernel_rfl) (by kernel_rfl)) ?_
  intro W base args ds gs before hval0 hW hcnd _
  have hval : ∀ (j : Nat) t v, Yba.f3.params[j]? = some t → args[j]? = some v → Value.okWide Yba.prog W .any base t v := hval0
  have hW' := hW
  obtain ⟨p, q, hA0, hV, rfl, hfz, hnd⟩ := hW
  have hA : DataW.TrodAll enc Yba.prog W 0 (fun _ => true) true Yba.f3.params.toList args.toList ds p := hA0
  rw [Yba.params3] at hA hval
  obtain ⟨v0, vs0, d0, ds0, p0, q0, hargs, rfl, rfl, h0, r0⟩ := trodAll_cons hA
  obtain ⟨v1, vs1, d1, ds1, p1, q1, rfl, rfl, rfl, h1, r1⟩ := trodAll_cons r0
  obtain ⟨v2, vs2, d2, ds2, p2, q2, rfl, rfl, rfl, h2, r2⟩ := trodAll_cons r1
  obtain ⟨rfl, rfl, rfl⟩ := trodAll_nil r2
  obtain rfl : args = #[v0, v1, v2] := by cases args; simp_all
  obtain ⟨rfl, rfl⟩ := trodVars_none hV
  obtain ⟨a0, len0, cap0, rfl⟩ := okWide_slice Yba.underlying22 (hval 0 22 v0 rfl rfl)
  have k0 := h0
  have lt0 : ∀ x ∈ p0, x.block < W.heap.size := by obtain ⟨m, hm⟩ := k0; exact DataW.trod_lt m _ _ _ hm
  have w0 : IsItems W a0 len0 := by
    obtain ⟨fuel, hf⟩ := h0
    exact items_of (by simpa [Value.cells] using hf)
  obtain ⟨a1, rfl, rfl, rfl, w1⟩ := open_int Yba.underlying5 (hval 1 5 v1 rfl rfl) h1
  obtain ⟨a2, rfl, rfl, rfl⟩ := open_bool Yba.underlying4 (hval 2 4 v2 rfl rfl) h2
  clear hA0 hval0
  refine (walk a0 len0 cap0 a1 a2 W w0 w1).mono fun e W' ⟨he, bel⟩ => ?_
  subst he
  exact ⟨_, rfl, _, _, _, [], _, [], hW', trodAll_mk1 (shut_bool Yba.underlying4 _), (trodAll_cons_mk (Below.trod laidOut (by kernel_rfl) (of_decide_eq_true (by kernel_rfl)) k0 bel lt0) (trodAll_cons_mk (shut_int Yba.underlying5 w1) (trodAll_cons_mk (shut_bool Yba.underlying4 _) trodAll_mk0))), rfl, bel.frame _, fun h => by cases h⟩

theorem over : Rows.lawS3108BFilterRow.holds Yba.pinned (OpenSpec.ofChange Rows.lawS3108BFilterSpec) :=
  OpenClaim.holds_of_wide 3 Yba.f3 rfl rfl rfl rfl rfl rfl rfl ⟨rfl, rfl, rfl, rfl, rfl⟩ rfl rfl rfl rfl rfl (by kernel_rfl) Yba.func3 (by kernel_rfl)
    (of_decide_eq_true (by kernel_rfl)) (by unfold Func.isWrapper; first | (rw [if_pos (by decide +kernel)]; kernel_rfl) | (rw [if_neg (by decide +kernel)]; exact ⟨rfl, rfl⟩))
    (fun os started H enc _ => lifted os started H enc)

/-- ████ THE STATEMENT ████ -/
theorem proved : Rows.LawS3108BFilterSaid := over
#print axioms proved
end Go.Proofs.Ybulkblio.lawS3108BFilter
