/-
  'Session.reuse', 'shrinkCap'.
-/
import Derived.Test.YbulkblioHeld
import Derived.Laws.Tables
namespace Go.Proofs.Ybulkblio
open Go.RowKit
set_option linter.unusedSimpArgs false

def pvals (l : List (Option Addr)) : List Value := l.map (fun x => .pointer x)
def OwnP (B : Nat) (v : Value) (l : List (Option Addr)) (w : World) : Prop := w.ownsRow B 41 1 v l.length (pvals l)

theorem OwnP.shape {B : Nat} {v : Value} {l : List (Option Addr)} {w : World} (h : OwnP B v l w) : ∃ a c, v = .slice a l.length c ∧ l.length ≤ c ∧ c ≤ maxLen := by
  obtain ⟨_, ⟨h0, h1⟩ | ⟨g, cap, cur, hv, _, _, h2, h3, _⟩⟩ := h
  · exact ⟨none, 0, by rw [h0, h1], by omega, by unfold maxLen; omega⟩
  · exact ⟨_, cap, hv, h2, h3⟩

/-- 'append(v, x)' of one request, v owned: where the new row lies. -/
theorem run_ptr {B : Nat} {v : Value} {l : List (Option Addr)} {w : World} (hown : OwnP B v l w) (ty : TypeId) (x : Option Addr) (hl : l.length ≤ 10000) (hB : B ≤ w.heap.size) (S : Nat) (hcell : w.cell? ⟨S, 0, none⟩ = some (.pointer x)) :
    ∃ v' w', (Builtin.append_ #[33, 33] ty #[v, .slice (some ⟨S, 0, none⟩) 1 1]).run Yba.prog w = .ok v' w' ∧ OwnP B v' (l ++ [x]) w' ∧ w.grownBy w' v.ownBlock ∧ (v'.ownBlock = v.ownBlock ∨ v'.ownBlock = some w.heap.size) := by
  obtain ⟨i, hi, hzz⟩ := Option.map_eq_some_iff.1 info41
  simp only [Prod.mk.injEq] at hzz
  obtain ⟨hz0, hz1, hz2⟩ := hzz
  have hnews : ∀ j u, ([.pointer x] : List Value)[j]? = some u → w.cell? ((⟨S, 0, none⟩ : Addr).add j) = some u := by
    intro j u hj
    match j, hj with
    | 0, hj => simp at hj; subst hj; simpa [Addr.add] using hcell
  have h1 : ∀ u ∈ ([.pointer x] : List Value), u.oneCell' = true := by simp [Value.oneCell']
  obtain ⟨v', w', hr, h2, h3, _⟩ := run_append_own (P := Yba.prog) w B 33 ty 41 i (.pointer none) 1 8 Yba.underlying33 hi hz0 hz1 hz2 rfl (by decide) v _ _ hown ⟨S, 0, none⟩ 1 1 [.pointer x] rfl hnews h1 (by unfold maxLen; omega) (by omega) hB
  refine ⟨v', w', hr, ?_, h3, ?_⟩
  · unfold OwnP pvals
    simpa [pvals] using h2
  · have hlc : (pvals l).length = l.length * i.size := by rw [hz1]; simp [pvals]
    rcases hown.2 with ⟨rfl, hn⟩ | ⟨g, cap, cur, rfl, hbg, hg, hnc, hcm, hcs, htake⟩
    · have e := run_append_nil (P := Yba.prog) w 33 ty 41 i (.pointer none) Yba.underlying33 hi hz0 ⟨S, 0, none⟩ 1 1 [.pointer x] (by rw [hz1]; rfl) hnews (by omega) (by omega) (by rw [hz2]; omega)
      have e2 := e.symm.trans hr
      injection e2 with e3 e4
      exact Or.inr (by rw [← e3]; rfl)
    · by_cases hroom : l.length + 1 ≤ cap
      · have hcs' : cur.size = cap := by simpa using hcs
        have e := run_append_room (P := Yba.prog) w 33 ty 41 i Yba.underlying33 hi g l.length cap cur hg ⟨S, 0, none⟩ 1 1 [.pointer x] (by rw [hz1]; rfl) hnews h1 hroom (by rw [hz1]; simp; omega)
        have e2 := e.symm.trans hr
        injection e2 with e3 e4
        exact Or.inl (by rw [← e3]; rfl)
      · have holds : ∀ j u, (pvals l)[j]? = some u → w.cell? ((⟨g, 0, none⟩ : Addr).add j) = some u := World.ownsRow.cells hown (g := g) rfl
        have e := run_append_grow (P := Yba.prog) w 33 ty 41 i (.pointer none) Yba.underlying33 hi hz0 ⟨g, 0, none⟩ l.length cap (pvals l) hlc holds ⟨S, 0, none⟩ 1 1 [.pointer x] (by rw [hz1]; rfl) hnews (by omega) (by omega) (growslice_fits (by omega) (by rw [hz2]; omega))
        have e2 := e.symm.trans hr
        injection e2 with e3 e4
        exact Or.inr (by rw [← e3]; rfl)

/-- What 'append(v, x)' leaves. -/
structure App (B : Nat) (v : Value) (l : List (Option Addr)) (x : Option Addr) (w : World) (v' : Value) (w' : World) : Prop where
  own : OwnP B v' (l ++ [x]) w'
  grown : w.grownBy w' v.ownBlock
  blk : v'.ownBlock = v.ownBlock ∨ ∃ g, v'.ownBlock = some g ∧ w.heap.size ≤ g

theorem wp_ptr {ops : Array Oper} {rest : List Oper} {o : Oper} {a : Act} {Q : Exit → Act → World → Prop} (w : World) (hgd : o.guard = none) (s x : Operand)
    (ho : o.op = Op.call { callee := Callee.builtin Builtin.append, args := #[s, x], argTypes := #[33, 33] }) {B : Nat} {v : Value} {l : List (Option Addr)} (hown : OwnP B v l w) (hl : l.length ≤ 10000) (hB : B ≤ w.heap.size)
    (z : Option Addr) (cs : Array Value) (hc : cs = #[.pointer z]) (S : Nat) (hS : S = w.heap.size) (hs : a.eval s = v) (hx : a.eval x = .slice (some ⟨S, 0, none⟩) 1 1)
    (h : ∀ v' w', App B v l z w v' w' → wpList Yba.prog ops Q rest (a.put o.dst v') w') : wpList Yba.prog ops Q (o :: rest) a (w.alloc (.cells cs 41)) := by
  subst hc
  subst hS
  obtain ⟨v', w', hr, h2, h3, h4⟩ := run_ptr (w := w.alloc (.cells #[.pointer z] 41)) (World.ownsRow.alloc hown _) o.type z hl (by simp; omega) w.heap.size (by rw [World.cell?_alloc_new]; rfl)
  refine wpList_plain hgd fun K hK => ?_
  unfold Oper.wp execOp
  simp only [ho, resolve, invoke, builtin, Sem.run_bind, Sem.run_pure, Result.andThen_ok, List.map_toArray, List.map_cons, List.map_nil, hs, hx, hr]
  refine hK _ _ (h _ _ ⟨h2, ?_, ?_⟩)
  · have e : (w.alloc (.cells #[.pointer z] 41)).heap.size = w.heap.size + 1 := by simp
    exact ⟨h3.os, h3.tape, h3.output, by have := h3.size; omega, fun k hk hn => (h3.block k (by omega) hn).trans (Below.heap_alloc _ _ _ hk)⟩
  · rcases h4 with h4 | h4
    · exact .inl h4
    · exact .inr ⟨_, h4, by simp⟩


/-- a request's zero value -/
def rq0 : Array Value := #[.pointer none, .int .u8 0, .string ByteArray.empty, .string ByteArray.empty, .int .u8 0, .int .u8 0, .bool false, .bool false, .bool false, .pointer none, .pointer none, .int .u64 0, .pointer none, .pointer none, .pointer none, .int .u64 0,
  .int .u8 0, .int .u8 0, .int .u8 0, .int .u8 0, .int .u8 0, .int .u8 0, .int .u8 0, .int .u8 0, .int .u8 0, .int .u8 0, .int .u8 0, .int .u8 0, .int .u8 0, .int .u8 0, .int .u8 0, .int .u8 0]
def bld70 (parts : Array (Nat × Value)) := Instr.build 70 parts
theorem hide70 (parts : Array (Nat × Value)) : Instr.build 70 parts = bld70 parts := rfl
theorem run_bld70 (w : World) : (bld70 #[]).run Yba.prog w = .ok (.agg rq0) w := by kernel_rfl
theorem rq0_one : rq0.all (·.oneCell') = true := by kernel_rfl
theorem rq0_size : rq0.size = 32 := rfl
theorem z70' : (Yba.prog.info? 70).map (·.size) = some rq0.size := by kernel_rfl
theorem z70 : (Yba.prog.info? 70).map (·.size) = some 32 := by kernel_rfl

/-- the session's spare requests: owned from B on -/
structure Sp (B bs : Nat) (w : World) : Prop where
  row : ∃ v l, w.cell? ⟨bs, 45, none⟩ = some v ∧ OwnP B v l w ∧ l.length ≤ 8
  fz : w.frozen? ⟨bs, 45, none⟩ = false

theorem OwnP.shape' {B : Nat} {v : Value} {l : List (Option Addr)} {w : World} (h : OwnP B v l w) : ∃ a n c, v = .slice a n c := by
  obtain ⟨a, c, e, _⟩ := h.shape
  exact ⟨a, _, c, e⟩

/-- below B nothing has turned but the blocks of S -/
structure ButB (B : Nat) (S : List Nat) (w w' : World) : Prop where
  os : w'.os = w.os
  tape : w'.tape = w.tape
  output : w'.output = w.output
  size : w.heap.size ≤ w'.heap.size
  block : ∀ k, k < B → k ∉ S → w'.heap[k]? = w.heap[k]?
theorem ButB.refl (B : Nat) (S : List Nat) (w : World) : ButB B S w w := ⟨rfl, rfl, rfl, Nat.le_refl _, fun _ _ _ => rfl⟩
theorem ButB.trans {B : Nat} {S : List Nat} {a b c : World} (h : ButB B S a b) (k : ButB B S b c) : ButB B S a c :=
  ⟨k.os.trans h.os, k.tape.trans h.tape, k.output.trans h.output, Nat.le_trans h.size k.size, fun j hj hn => (k.block j hj hn).trans (h.block j hj hn)⟩
theorem ButB.set {B : Nat} {S : List Nat} {a b : World} (h : ButB B S a b) {g : Nat} (hg : g ∈ S) (i : Nat) (v : Value) : ButB B S a (b.setCell ⟨g, i, none⟩ v) :=
  h.trans ⟨rfl, rfl, rfl, by simp [World.setCell], fun k _ hn => Below.heap_setCell _ _ _ _ (fun e => hn (e ▸ hg))⟩
theorem ButB.mono {B : Nat} {S S' : List Nat} {a b : World} (h : ButB B S a b) (hs : ∀ x, x ∈ S → x ∈ S') : ButB B S' a b :=
  ⟨h.os, h.tape, h.output, h.size, fun j hj hn => h.block j hj (fun hx => hn (hs _ hx))⟩
theorem ButB.of {B : Nat} {S : List Nat} {a b : World} (h : But S a b) (hB : B ≤ a.heap.size) : ButB B S a b :=
  ⟨h.os, h.tape, h.output, h.size, fun k hk hn => h.block k (by omega) hn⟩

/-- What 'reuse' leaves. -/
structure Reused (B bs r : Nat) (w : World) (e : Ending) (w' : World) : Prop where
  ret : e = .returned (.tuple #[])
  sp : Sp B bs w'
  but : ButB B [bs, r] w w'

attribute [local go_sem ↓] hide70
set_option maxRecDepth 100000 in
set_option maxHeartbeats 1000000 in
theorem reuse_any {B bs r bs' d : Nat} {light : Bool} {st : Option Addr} (w : World) (S : Sp B bs w) (R : Rq w r bs' d light st) (hbs : bs < B) (hr : r < B) (hne : r ≠ bs) (hB : B ≤ w.heap.size) :
    Calls Yba.prog 13 #[.pointer (some ⟨bs, 0, none⟩), .pointer (some ⟨r, 0, none⟩)] w fun e w' => Reused B bs r w e w' := by
  obtain ⟨v, l, c45, own, hl⟩ := S.row
  obtain ⟨_, _, _, r8, r10, _⟩ := R.cells
  obtain ⟨a, c, rfl, hlc, hcm⟩ := own.shape
  have hbld := run_bld70
  by_cases h8 : l.length = 8
  · have hd : decide ((l.length : Int) = 8) = true := decide_eq_true (by omega)
    have HS := (show Hid _ from S)
    clear S R own
    go_enter Yba.func13, Yba.ntmps13
    go_wp2_with fail
    refine bodyPost_ret (results_none rfl _ _ _) rfl ?_
    exact ⟨rfl, HS.out, ButB.refl _ _ _⟩
  · have hd : decide ((l.length : Int) = 8) = false := decide_eq_false (by omega)
    have hdn : ¬ (l.length : Int) = 8 := by omega
    have hdb : ((l.length : Int) == 8) = false := by simpa using hdn
    obtain ⟨cs, g1, g2, _⟩ := R.whole
    have e45 : (w.setRow r rq0).cell? ⟨bs, 45, none⟩ = some (.slice a l.length c) := (World.cell?_of_block (w := w) (setRow_other w r bs _ (Ne.symm hne))).trans c45
    have own1 : OwnP B (.slice a l.length c) l (w.setRow r rq0) := by
      have hb : But [r] w (w.setRow r rq0) := ⟨rfl, rfl, rfl, by simp [World.setRow], fun k _ hk => setRow_other _ r k _ (by simpa using hk)⟩
      refine World.ownsRow.kept (row := some r) own ⟨hb.os, hb.tape, hb.output, hb.size, fun k hk hn => hb.block k hk (by simpa using hn)⟩ ?_
      right
      intro e
      have := (World.ownsRow.lt own r e).1
      omega
    have hsz : (w.setRow r rq0).heap.size = w.heap.size := by simp [World.setRow]
    have K : ∀ v' w', App B (.slice a l.length c) l (some ⟨r, 0, none⟩) (w.setRow r rq0) v' w' → (∃ u, w'.cell? ⟨bs, 45, none⟩ = some u) ∧ w'.frozen? ⟨bs, 45, none⟩ = false ∧ Hid (Reused B bs r w (.returned (.tuple #[])) (w'.setCell ⟨bs, 45, none⟩ v')) := by
      intro v' w' A
      have hne2 : some bs ≠ (Value.slice a l.length c).ownBlock := fun e => by have := (World.ownsRow.lt own1 bs e.symm).1; omega
      have e1 : w'.heap[bs]? = (w.setRow r rq0).heap[bs]? := A.grown.block bs (by omega) hne2
      have e2 : w'.heap[bs]? = w.heap[bs]? := e1.trans (setRow_other w r bs _ (Ne.symm hne))
      have hc : w'.cell? ⟨bs, 45, none⟩ = some (.slice a l.length c) := (World.cell?_of_block (w := w) e2).trans c45
      have hf : w'.frozen? ⟨bs, 45, none⟩ = false := (World.frozen?_of_block (w := w) e2).trans S.fz
      have ho : OwnP B v' (l ++ [some ⟨r, 0, none⟩]) (w'.setCell ⟨bs, 45, none⟩ v') := ownsRow_setCell_below (a := ⟨bs, 45, none⟩) A.own hbs v'
      refine ⟨⟨_, hc⟩, hf, rfl, ⟨⟨v', l ++ [some ⟨r, 0, none⟩], by simp [go_sem, hc], ho, by simp; omega⟩, by simp [go_sem, hf]⟩, ?_⟩
      have gs := A.grown.size
      have hbb : ButB B [bs, r] w w' := by
        refine ⟨A.grown.os, A.grown.tape, A.grown.output, by omega, fun k hk hn => ?_⟩
        have hk1 : k ≠ r := fun e => hn (by simp [e])
        exact (A.grown.block k (by omega) (fun e => by have := (World.ownsRow.lt own1 k e.symm).1; omega)).trans (setRow_other w r k _ hk1)
      exact hbb.set (g := bs) (by simp) _ _
    clear S R own
    go_enter Yba.func13, Yba.ntmps13
    go_wp2_with (first
      | (refine wpList_store_row rfl 70 (.tmp 28) (.tmp 27) rfl r rq0 rfl rfl 70 cs g1 z70' (g2.trans rq0_size.symm) rq0_one ?_)
      | (at_builtin; refine wp_ptr (w.setRow r rq0) rfl _ _ rfl own1 (by omega) (by omega) (some ⟨r, 0, none⟩) _ rfl w.heap.size hsz.symm rfl rfl ?_; intro v' w' A'; obtain ⟨a', n', c', rfl⟩ := A'.own.shape'; obtain ⟨⟨u, k1⟩, k2, k3⟩ := K _ w' A'; clear A'))
    first | go_end0 | refine bodyPost_ret (results_none rfl _ _ _) rfl ?_
    exact k3.out
end Go.Proofs.Ybulkblio
