/-
  'heldLocks.drop' where no index is kept.
-/
import Derived.Test.YbulkblioShrink
namespace Go.Proofs.Ybulkblio
open Go.RowKit
set_option linter.unusedSimpArgs false

/-- the locks: how many, each one's duration, is it light, is it listed; the durations asked for; lightOnly -/
structure Its where
  n : Nat
  d : Nat → Nat
  l : Nat → Bool
  s : Nat → Bool
  D : List Nat
  lo : Bool

namespace Its
variable (I : Its)
def inn (i : Nat) : Bool := decide (I.d i ∈ I.D)
def drp (i : Nat) : Bool := I.inn i && (if I.lo then I.l i else !I.l i && !I.s i)
def kept : Nat → List Nat
  | 0 => []
  | i + 1 => if I.drp i then kept i else kept i ++ [i]
def left : Nat → Bool
  | 0 => false
  | i + 1 => left i || (I.inn i && !I.drp i)
def lit : Nat → Nat
  | 0 => 0
  | i + 1 => lit i + if !I.drp i && I.l i then 1 else 0
def las : Nat → Nat → Nat
  | 0, _ => 0
  | i + 1, c => las i c + if !I.drp i && decide (I.d i = c) then 1 else 0
def lt : Nat → Nat
  | 0 => 0
  | i + 1 => lt i + if I.l i then 1 else 0
def ct : Nat → Nat → Nat
  | 0, _ => 0
  | i + 1, c => ct i c + if I.d i = c then 1 else 0

theorem kept_len (i : Nat) : (I.kept i).length ≤ i := by
  induction i with
  | zero => simp [kept]
  | succ i ih =>
    unfold kept
    split
    · omega
    · simp; omega
theorem kept_lt (i : Nat) : ∀ x, x ∈ I.kept i → x < i := by
  induction i with
  | zero => simp [kept]
  | succ i ih =>
    intro x hx
    unfold kept at hx
    split at hx
    · have := ih x hx; omega
    · simp at hx
      rcases hx with hx | rfl
      · have := ih x hx; omega
      · omega
theorem lt_mono {i j : Nat} (h : i ≤ j) : I.lt i ≤ I.lt j := by
  induction j with
  | zero => have : i = 0 := by omega
            subst this; exact Nat.le_refl _
  | succ j ih =>
    by_cases e : i = j + 1
    · subst e; exact Nat.le_refl _
    · have := ih (by omega)
      simp only [lt]; omega
theorem ct_mono {i j : Nat} (c : Nat) (h : i ≤ j) : I.ct i c ≤ I.ct j c := by
  induction j with
  | zero => have : i = 0 := by omega
            subst this; exact Nat.le_refl _
  | succ j ih =>
    by_cases e : i = j + 1
    · subst e; exact Nat.le_refl _
    · have := ih (by omega)
      simp only [ct]; omega
theorem lt_le (i : Nat) : I.lt i ≤ i := by
  induction i with
  | zero => simp [lt]
  | succ i ih => simp only [lt]; split <;> omega
theorem ct_le (i c : Nat) : I.ct i c ≤ i := by
  induction i with
  | zero => simp [ct]
  | succ i ih => simp only [ct]; split <;> omega
theorem lit_le (i : Nat) : I.lit i ≤ I.lt i := by
  induction i with
  | zero => simp [lt, lit]
  | succ i ih =>
    simp only [lt, lit]
    cases I.l i <;> simp <;> (try split) <;> omega
theorem las_le (i c : Nat) : I.las i c ≤ I.ct i c := by
  induction i with
  | zero => simp [las, ct]
  | succ i ih =>
    simp only [las, ct]
    by_cases h : I.d i = c <;> simp [h] <;> (try split) <;> omega
end Its

theorem lit_drop {I : Its} {i : Nat} (h : I.drp i = true) : I.lit (i + 1) = I.lit i ∧ (∀ c, I.las (i + 1) c = I.las i c) ∧ I.kept (i + 1) = I.kept i ∧ I.left (i + 1) = I.left i := by
  refine ⟨by simp [Its.lit, h], fun c => by simp [Its.las, h], by simp [Its.kept, h], by simp [Its.left, h]⟩
theorem lit_keep {I : Its} {i : Nat} (h : I.drp i = false) : I.lit (i + 1) = I.lit i + (if I.l i then 1 else 0) ∧ (∀ c, I.las (i + 1) c = I.las i c + if I.d i = c then 1 else 0) ∧ I.kept (i + 1) = I.kept i ++ [i] ∧ I.left (i + 1) = (I.left i || I.inn i) := by
  refine ⟨by simp [Its.lit, h], fun c => by simp [Its.las, h], by simp [Its.kept, h], by simp [Its.left, h]⟩

def slc33 (x : Value) (lo hi mx : Option Value) := Instr.slice 33 x lo hi mx
theorem hideSlc (x : Value) (lo hi mx : Option Value) : Instr.slice 33 x lo hi mx = slc33 x lo hi mx := rfl
theorem slc_from (b n : Nat) (w : World) : (slc33 (.slice (some ⟨b, 0, none⟩) n n) (some (.int .i64 0)) none none).run Yba.prog w = .ok (.slice (some ⟨b, 0, none⟩) n n) w := by
  have hu := Yba.underlying33
  have hs : ∀ w, (sizeOf 41).run Yba.prog w = .ok 1 w := fun _ => by kernel_rfl
  unfold slc33 Instr.slice
  by_cases h : n = 0
  · simp [go_sem, run_underlying hu, hs, h]
  · simp [go_sem, run_underlying hu, hs, h]
theorem slc_to (b n : Nat) (w : World) : (slc33 (.slice (some ⟨b, 0, none⟩) n n) none (some (.int .i64 0)) none).run Yba.prog w = .ok (.slice (some ⟨b, 0, none⟩) 0 n) w := by
  have hu := Yba.underlying33
  have hs : ∀ w, (sizeOf 41).run Yba.prog w = .ok 1 w := fun _ => by kernel_rfl
  unfold slc33 Instr.slice
  by_cases h : n = 0
  · simp [go_sem, run_underlying hu, hs, h]
  · simp [go_sem, run_underlying hu, hs, h]

/-- below B nothing has turned but bh, bs, bl and the first i requests -/
structure ButD (B bh bs bl : Nat) (q : Nat → Nat) (i : Nat) (w w' : World) : Prop where
  os : w'.os = w.os
  tape : w'.tape = w.tape
  output : w'.output = w.output
  size : w.heap.size ≤ w'.heap.size
  block : ∀ k, k < B → k ≠ bh → k ≠ bs → k ≠ bl → (∀ j, j < i → k ≠ q j) → w'.heap[k]? = w.heap[k]?

theorem ButD.refl (B bh bs bl : Nat) (q : Nat → Nat) (w : World) : ButD B bh bs bl q 0 w w := ⟨rfl, rfl, rfl, Nat.le_refl _, fun _ _ _ _ _ _ => rfl⟩
theorem ButD.step {B bh bs bl : Nat} {q : Nat → Nat} {i : Nat} {w a b : World} (h : ButD B bh bs bl q i w a) (k : ButB B [bh, bs, bl, q i] a b) : ButD B bh bs bl q (i + 1) w b :=
  ⟨k.os.trans h.os, k.tape.trans h.tape, k.output.trans h.output, Nat.le_trans h.size k.size, fun j hj n1 n2 n3 hn => (k.block j hj (by simp; exact ⟨n1, n2, n3, hn i (by omega)⟩)).trans (h.block j hj n1 n2 n3 (fun x hx => hn x (by omega)))⟩
theorem ButD.more {B bh bs bl : Nat} {q : Nat → Nat} {i : Nat} {w a b : World} (h : ButD B bh bs bl q i w a) (k : ButB B [bh, bs, bl] a b) : ButD B bh bs bl q i w b :=
  ⟨k.os.trans h.os, k.tape.trans h.tape, k.output.trans h.output, Nat.le_trans h.size k.size, fun j hj n1 n2 n3 hn => (k.block j hj (by simp; exact ⟨n1, n2, n3⟩)).trans (h.block j hj n1 n2 n3 hn)⟩

/-- what lies in memory where 'drop' is called -/
structure Pre (I : Its) (B bh bs bl : Nat) (q : Nat → Nat) (st : Nat → Option Addr) (ad : Option Addr) (w : World) : Prop where
  hl : HL w bh bl I.n I.n (I.lt I.n) (I.ct I.n)
  row : w.rowIs bl 41 I.n (fun j => .pointer (some ⟨q j, 0, none⟩))
  rq : ∀ j, j < I.n → Rq w (q j) bs (I.d j) (I.l j) (st j)
  stn : ∀ j, j < I.n → (st j = none ↔ (I.s j && !I.l j) = false)
  sp : Sp B bs w
  dur : DurIs w ad I.D
  durB : ∀ b, ad = some ⟨b, 0, none⟩ → b < B ∧ b ≠ bh ∧ b ≠ bs ∧ b ≠ bl ∧ ∀ j, j < I.n → b ≠ q j
  hB : B ≤ w.heap.size
  lts : bh < B ∧ bs < B ∧ bl < B
  nes : bh ≠ bs ∧ bh ≠ bl ∧ bs ≠ bl
  qs : ∀ j, j < I.n → q j < B ∧ q j ≠ bh ∧ q j ≠ bs ∧ q j ≠ bl
  inj : ∀ i j, i < I.n → j < I.n → q i = q j → i = j
  dd : ∀ j, j < I.n → I.d j < 4
  hn : I.n ≤ 1024

theorem OwnP.of_block {B : Nat} {v : Value} {l : List (Option Addr)} {w w' : World} (h : OwnP B v l w) (e : ∀ g, v.ownBlock = some g → w'.heap[g]? = w.heap[g]?) : OwnP B v l w' := by
  obtain ⟨h1, h2 | ⟨g, cap, cur, hv, hb, hg, rest⟩⟩ := h
  · exact ⟨h1, .inl h2⟩
  · exact ⟨h1, .inr ⟨g, cap, cur, hv, hb, (e g (by rw [hv]; rfl)).trans hg, rest⟩⟩

theorem Sp.of_but {B bs : Nat} {S : List Nat} {w w' : World} (h : Sp B bs w) (hb : But S w w') (hs : ∀ x, x ∈ S → x < B ∧ x ≠ bs) : Sp B bs w' := by
  obtain ⟨v, l, c, own, hl⟩ := h.row
  have hbs : bs < w.heap.size := cell_lt c
  have e : w'.heap[bs]? = w.heap[bs]? := hb.block bs hbs (fun hx => (hs _ hx).2 rfl)
  refine ⟨⟨v, l, (World.cell?_of_block (w := w) e).trans c, own.of_block ?_, hl⟩, (World.frozen?_of_block (w := w) e).trans h.fz⟩
  intro g hg
  have := World.ownsRow.lt own g hg
  exact hb.block g this.2 (fun hx => by have := (hs _ hx).1; omega)

/-- 'drop', its loop after i locks -/
structure DRel (I : Its) (B bh bs bl : Nat) (q : Nat → Nat) (w : World) (i : Nat) (kv lv : Value) (wr : World) : Prop where
  but : ButD B bh bs bl q i w wr
  hl : ∃ Hl La, HL wr bh bl I.n I.n Hl La ∧ Hl + I.lt i = I.lit i + I.lt I.n ∧ ∀ c, La c + I.ct i c = I.las i c + I.ct I.n c
  row : ∃ f, wr.rowIs bl 41 I.n f ∧ (∀ j (h : j < (I.kept i).length), f j = .pointer (some ⟨q ((I.kept i)[j]), 0, none⟩)) ∧ ∀ j, i ≤ j → j < I.n → f j = .pointer (some ⟨q j, 0, none⟩)
  sp : Sp B bs wr
  kv : kv = .slice (some ⟨bl, 0, none⟩) (I.kept i).length I.n
  lv : lv = .bool (I.left i)

theorem Pre.start {I : Its} {B bh bs bl : Nat} {q : Nat → Nat} {st : Nat → Option Addr} {ad : Option Addr} {w : World} (P : Pre I B bh bs bl q st ad w) : DRel I B bh bs bl q w 0 (.slice (some ⟨bl, 0, none⟩) 0 I.n) (.bool false) w :=
  ⟨ButD.refl _ _ _ _ _ _, ⟨_, _, P.hl, by simp [Its.lit, Its.lt], fun c => by simp [Its.las, Its.ct]⟩, ⟨_, P.row, fun j h => absurd h (by simp [Its.kept]), fun j _ _ => rfl⟩, P.sp, by simp [Its.kept], by simp [Its.left]⟩

theorem DRel.keep {I : Its} {B bh bs bl : Nat} {q : Nat → Nat} {st : Nat → Option Addr} {ad : Option Addr} {w : World} (P : Pre I B bh bs bl q st ad w) {i : Nat} {kv lv : Value} {wr w2 : World} (R : DRel I B bh bs bl q w i kv lv wr)
    (_hi : i < I.n) (hd : I.drp i = false) {f : Nat → Value} (f1 : ∀ j (h : j < (I.kept i).length), f j = .pointer (some ⟨q ((I.kept i)[j]), 0, none⟩)) (f2 : ∀ j, i ≤ j → j < I.n → f j = .pointer (some ⟨q j, 0, none⟩))
    (hb : But [bl] wr w2) (hr : w2.rowIs bl 41 I.n (fun j => if j = (I.kept i).length then .pointer (some ⟨q i, 0, none⟩) else f j)) :
    DRel I B bh bs bl q w (i + 1) (.slice (some ⟨bl, 0, none⟩) ((I.kept i).length + 1) I.n) (.bool (I.left i || I.inn i)) w2 := by
  obtain ⟨e1, e2, e3, e4⟩ := lit_keep hd
  obtain ⟨Hl, La, H, h1, h2⟩ := R.hl
  have hB : B ≤ wr.heap.size := Nat.le_trans P.hB R.but.size
  have hkl := I.kept_len i
  refine ⟨(R.but.more (ButB.of (hb.mono (by simp)) hB)).step (ButB.refl _ _ _), ⟨Hl, La, H.of_block (hb.block bh (by have := P.lts.1; omega) (by simpa using P.nes.2.1)), ?_, ?_⟩, ⟨_, hr, ?_, ?_⟩, R.sp.of_but hb (by simp; exact ⟨P.lts.2.2, P.nes.2.2.symm⟩), ?_, ?_⟩
  · simp only [Its.lt, e1]; omega
  · intro c
    have := h2 c
    simp only [Its.ct, e2 c]; omega
  · intro j hj
    simp only [e3] at hj ⊢
    simp at hj
    by_cases e : j = (I.kept i).length
    · subst e; simp
    · rw [List.getElem_append_left (by omega)]
      simp only [if_neg e]
      exact f1 j (by omega)
  · intro j h3 h4
    have : ¬ j = (I.kept i).length := by omega
    simp only [if_neg this]
    exact f2 j (by omega) h4
  · rw [e3]; simp
  · rw [e4]

theorem DRel.drop {I : Its} {B bh bs bl : Nat} {q : Nat → Nat} {st : Nat → Option Addr} {ad : Option Addr} {w : World} (P : Pre I B bh bs bl q st ad w) {i : Nat} {kv lv : Value} {wr w3 w4 : World} (R : DRel I B bh bs bl q w i kv lv wr)
    (hi : i < I.n) (hd : I.drp i = true) (hb : But [bh] wr w3) {Hl : Nat} {La : Nat → Nat} (h1 : Hl + I.lt i = I.lit i + I.lt I.n) (h2 : ∀ c, La c + I.ct i c = I.las i c + I.ct I.n c) {Hl' : Nat} {La' : Nat → Nat} (H : HL w3 bh bl I.n I.n Hl' La')
    (g1 : Hl' + (if I.l i then 1 else 0) = Hl) (g2 : ∀ c, La' c + (if I.d i = c then 1 else 0) = La c) {e : Ending} (U : Reused B bs (q i) w3 e w4) : DRel I B bh bs bl q w (i + 1) kv lv w4 := by
  obtain ⟨e1, e2, e3, e4⟩ := lit_drop hd
  obtain ⟨q1, q2, q3, q4⟩ := P.qs i hi
  obtain ⟨p1, p2, p3⟩ := P.lts
  obtain ⟨n1, n2, n3⟩ := P.nes
  have hB : B ≤ wr.heap.size := Nat.le_trans P.hB R.but.size
  obtain ⟨f, r, f1, f2⟩ := R.row
  have hbl : w4.heap[bl]? = wr.heap[bl]? := (U.but.block bl p3 (by simp; exact ⟨fun e => n3 e.symm, fun e => q4 e.symm⟩)).trans (hb.block bl (by omega) (by simpa using n2.symm))
  refine ⟨R.but.step (((ButB.of hb hB).mono (by simp)).trans (U.but.mono (by simp))), ⟨Hl', La', H.of_block (U.but.block bh p1 (by simp; exact ⟨n1, fun e => q2 e.symm⟩)), ?_, ?_⟩, ⟨f, r.of_block hbl, ?_, ?_⟩, U.sp, by rw [e3]; exact R.kv, by rw [e4]; exact R.lv⟩
  · simp only [Its.lt, e1]; omega
  · intro c
    have := h2 c
    have := g2 c
    simp only [Its.ct, e2 c]; omega
  · intro j hj
    simp only [e3] at hj ⊢
    exact f1 j hj
  · intro j h3 h4
    exact f2 j (by omega) h4

/-- what 'drop' leaves -/
structure Dropped (I : Its) (B bh bs bl : Nat) (q : Nat → Nat) (w : World) (e : Ending) (w' : World) : Prop where
  ret : e = .returned (.bool (I.left I.n))
  but : ButD B bh bs bl q I.n w w'
  hl : ∃ b' cap', HL w' bh b' cap' (I.kept I.n).length (I.lit I.n) (I.las I.n) ∧ (I.kept I.n).length ≤ cap' ∧ cap' ≤ 10000 ∧ ∀ j (h : j < (I.kept I.n).length), w'.cell? ⟨b', j, none⟩ = some (.pointer (some ⟨q ((I.kept I.n)[j]), 0, none⟩))
end Go.Proofs.Ybulkblio
