/-
  THE PLAIN LAW of the order walk: a Fenwick tree over nodes 0 .. n-1 (n <= 255) and the smallest-first topological order. No Go in sight.
-/
namespace Go.Proofs.Ybulkblde

/-- the lowest bit of i -/
def lb (i : Nat) : Nat := i - (i &&& (i - 1))

theorem lbA : ∀ i, i < 256 → 1 ≤ i → 1 ≤ lb i ∧ lb i ≤ i ∧ (i + lb i) - lb (i + lb i) ≤ i - lb i := by decide +kernel
theorem lbB : ∀ i, i < 256 → ∀ d, d < lb i → 1 ≤ d → i ≤ (i + d) - lb (i + d) := by decide +kernel
theorem lbE : ∀ e, e < 8 → ∀ p, p < 256 → p % (2 ^ (e + 1)) = 0 → lb (p + 2 ^ e) = 2 ^ e := by decide +kernel

/-- node m is counted by the tree's cell j -/
abbrev cov (m j : Nat) : Prop := j - lb j ≤ m ∧ m < j

/-- the members of F among a .. a+l-1 -/
def num (F : Nat → Bool) (a : Nat) : Nat → Nat
  | 0 => 0
  | l + 1 => num F a l + if F (a + l) then 1 else 0

theorem num_le (F : Nat → Bool) (a l : Nat) : num F a l ≤ l := by
  induction l with
  | zero => simp [num]
  | succ l ih => simp only [num]; split <;> omega

theorem num_zero (F : Nat → Bool) (a l : Nat) : num F a l = 0 ↔ ∀ x, a ≤ x → x < a + l → F x = false := by
  induction l with
  | zero => simp [num]; omega
  | succ l ih =>
    simp only [num]
    constructor
    · intro h x h1 h2
      by_cases e : x = a + l
      · subst e; by_cases hf : F (a + l) = true
        · simp [hf] at h
        · simpa using hf
      · exact ih.1 (by omega) x h1 (by omega)
    · intro h
      have h1 := ih.2 (fun x a1 a2 => h x a1 (by omega))
      have h2 := h (a + l) (by omega) (by omega)
      simp [h1, h2]

def put (F : Nat → Bool) (m : Nat) (b : Bool) : Nat → Bool := fun x => if x = m then b else F x

theorem num_put (F : Nat → Bool) (m : Nat) (a l : Nat) (b : Bool) (h : F m = !b) :
    (num (put F m b) a l : Int) = num F a l + (if a ≤ m ∧ m < a + l then (if b then 1 else -1) else 0) := by
  induction l with
  | zero => simp [num]; omega
  | succ l ih =>
    simp only [num]
    push_cast
    rw [ih]
    by_cases e : a + l = m
    · subst e
      have : ¬ (a ≤ a + l ∧ a + l < a + l) := by omega
      have h2 : (a ≤ a + l ∧ a + l < a + (l + 1)) := by omega
      rw [if_neg this, if_pos h2]
      simp only [put, if_pos, h]
      cases b <;> simp <;> omega
    · have : (a ≤ m ∧ m < a + (l + 1)) ↔ (a ≤ m ∧ m < a + l) := by omega
      simp only [put, if_neg e, this]
      omega

/-- the tree t counts F -/
def Fen (n : Nat) (F : Nat → Bool) (t : Nat → Int) : Prop := ∀ j, 1 ≤ j → j ≤ n → t j = num F (j - lb j) (lb j)

/-- 'change' at index i: the cells below i have turned -/
structure Chg (n : Nat) (t : Nat → Int) (m : Nat) (d : Int) (i : Nat) (t' : Nat → Int) : Prop where
  at_ : cov m i
  val : ∀ j, 1 ≤ j → j ≤ n → t' j = t j + if cov m j ∧ j < i then d else 0

theorem Chg.start {n : Nat} {t : Nat → Int} {m : Nat} {d : Int} (hm : m < 255) : Chg n t m d (m + 1) t := by
  have h := lbA (m + 1) (by omega) (by omega)
  refine ⟨⟨by omega, by omega⟩, ?_⟩
  intro j h1 h2
  have : ¬ (cov m j ∧ j < m + 1) := by
    rintro ⟨⟨_, a⟩, b⟩; omega
  rw [if_neg this]; omega

theorem Chg.step {n : Nat} {t : Nat → Int} {m : Nat} {d : Int} {i : Nat} {t' : Nat → Int} (hn : n ≤ 255) (h : Chg n t m d i t') (hi : i ≤ n) :
    Chg n t m d (i + lb i) (fun j => if j = i then t' i + d else t' j) := by
  obtain ⟨⟨c1, c2⟩, v⟩ := h
  have hA := lbA i (by omega) (by omega)
  refine ⟨⟨by omega, by omega⟩, ?_⟩
  intro j h1 h2
  by_cases e : j = i
  · subst e
    have n1 : ¬ (cov m j ∧ j < j) := by rintro ⟨_, a⟩; omega
    have n2 : cov m j ∧ j < j + lb j := ⟨⟨c1, c2⟩, by omega⟩
    have := v j h1 h2
    rw [if_neg n1] at this
    simp only [if_pos]
    rw [if_pos n2]; omega
  · simp only [if_neg e]
    rw [v j h1 h2]
    congr 1
    by_cases hc : cov m j
    · by_cases hj : j < i
      · rw [if_pos ⟨hc, hj⟩, if_pos ⟨hc, by omega⟩]
      · by_cases hj2 : j < i + lb i
        · have hB := lbB i (by omega) (j - i) (by omega) (by omega)
          have e2 : i + (j - i) = j := by omega
          rw [e2] at hB
          have := hc.1
          omega
        · rw [if_neg (fun a => hj a.2), if_neg (fun a => hj2 a.2)]
    · rw [if_neg (fun a => hc a.1), if_neg (fun a => hc a.1)]

theorem Chg.end_ {n : Nat} {F : Nat → Bool} {t : Nat → Int} {m : Nat} {b : Bool} {i : Nat} {t' : Nat → Int} (hn : n ≤ 255) (hF : Fen n F t) (hb : F m = !b)
    (h : Chg n t m (if b then 1 else -1) i t') (hi : n < i) : Fen n (put F m b) t' := by
  intro j h1 h2
  rw [h.val j h1 h2, hF j h1 h2, num_put F m _ _ b hb]
  have hA := lbA j (by omega) h1
  have : (cov m j ∧ j < i) ↔ (j - lb j ≤ m ∧ m < j - lb j + lb j) := by
    unfold cov; omega
  simp only [this]

theorem Chg.bound {n : Nat} {F : Nat → Bool} {t : Nat → Int} {m : Nat} {d : Int} {i : Nat} {t' : Nat → Int} (hn : n ≤ 255) (hF : Fen n F t) 
    (h : Chg n t m d i t') (j : Nat) (h1 : 1 ≤ j) (h2 : j ≤ n) (hi : ¬ j < i) : t' j = t j ∧ 0 ≤ t j ∧ t j ≤ 255 := by
  have := h.val j h1 h2
  rw [if_neg (fun a => hi a.2)] at this
  have hA := lbA j (by omega) h1
  have l1 := num_le F (j - lb j) (lb j)
  have := hF j h1 h2
  omega

/-- q is the least member of F, or n -/
structure IsLow (F : Nat → Bool) (n q : Nat) : Prop where
  le : q ≤ n
  no : ∀ x, x < q → F x = false
  yes : q < n → F q = true

theorem IsLow.uniq {F : Nat → Bool} {n q q' : Nat} (h : IsLow F n q) (h' : IsLow F n q') : q = q' := by
  rcases Nat.lt_trichotomy q q' with a | a | a
  · have := h'.no q a
    have := h.yes (by have := h'.le; omega)
    simp_all
  · exact a
  · have := h.no q' a
    have := h'.yes (by have := h.le; omega)
    simp_all

def low (F : Nat → Bool) : Nat → Nat → Nat
  | 0, s => s
  | k + 1, s => if F s then s else low F k (s + 1)

theorem low_is (F : Nat → Bool) (k : Nat) : ∀ s, (∀ x, x < s → F x = false) → IsLow F (s + k) (low F k s) := by
  induction k with
  | zero => intro s hs; exact ⟨by simp [low], hs, by simp [low]⟩
  | succ k ih =>
    intro s hs
    unfold low
    split
    · rename_i h; exact ⟨by omega, hs, fun _ => h⟩
    · rename_i h
      have := ih (s + 1) (fun x hx => by
        by_cases e : x = s
        · subst e; simpa using h
        · exact hs x (by omega))
      rwa [show s + 1 + k = s + (k + 1) by omega] at this

theorem low_isLow (F : Nat → Bool) (n : Nat) : IsLow F n (low F n 0) := by
  have := low_is F n 0 (fun x h => absurd h (by omega))
  simpa using this

/-- 'nth 0' : the least member q lies in p .. p + 2^e - 1 -/
structure Nth (F : Nat → Bool) (n q e p : Nat) : Prop where
  low : IsLow F n q
  al : p % (2 ^ e) = 0
  lo : p ≤ q
  hi : q < p + 2 ^ e

/-- one round: the test 'p + step < n + 1 && tree[p+step] <= 0' says whether q lies past p + step -/
theorem Nth.step {F : Nat → Bool} {n q e p : Nat} {t : Nat → Int} (hn : n ≤ 255) (hF : Fen n F t) (h : Nth F n q (e + 1) p) (he : e < 8) :
    (n < p + 2 ^ e → Nth F n q e p) ∧ (p + 2 ^ e ≤ n → 0 < t (p + 2 ^ e) → Nth F n q e p) ∧ (p + 2 ^ e ≤ n → t (p + 2 ^ e) ≤ 0 → t (p + 2 ^ e) = 0 ∧ Nth F n q e (p + 2 ^ e)) := by
  obtain ⟨lw, al, lo, hi⟩ := h
  have hp := lw.le
  have hlb := lbE e he p (by omega) al
  have e2 : 2 ^ (e + 1) = 2 ^ e + 2 ^ e := by rw [Nat.pow_succ]; omega
  have hpos : 0 < 2 ^ e := Nat.pow_pos (by omega)
  have al1 : p % 2 ^ e = 0 := by
    have : 2 ^ e ∣ p := Nat.dvd_trans ⟨2, by rw [Nat.pow_succ]⟩ (Nat.dvd_of_mod_eq_zero al)
    exact Nat.mod_eq_zero_of_dvd this
  have al2 : (p + 2 ^ e) % 2 ^ e = 0 := by simp [al1]
  refine ⟨fun h => ⟨lw, al1, lo, by omega⟩, fun h1 h2 => ⟨lw, al1, lo, ?_⟩, fun h1 h2 => ?_⟩
  · rw [hF (p + 2 ^ e) (by omega) h1, hlb] at h2
    by_cases c : q < p + 2 ^ e
    · exact c
    · have : num F (p + 2 ^ e - 2 ^ e) (2 ^ e) = 0 := (num_zero F _ _).2 (fun x a1 a2 => lw.no x (by omega))
      omega
  · rw [hF (p + 2 ^ e) (by omega) h1, hlb] at h2 ⊢
    have h0 : num F (p + 2 ^ e - 2 ^ e) (2 ^ e) = 0 := by omega
    refine ⟨by omega, lw, al2, ?_, by omega⟩
    have := (num_zero F _ _).1 h0
    by_cases c : p + 2 ^ e ≤ q
    · exact c
    · have a1 := this q (by omega) (by omega)
      have a2 := lw.yes (by omega)
      simp_all

theorem Nth.end_ {F : Nat → Bool} {n q p : Nat} (h : Nth F n q 0 p) : p = q := by
  have := h.lo; have := h.hi; simp at *; omega


/-! ### the order -/

/-- the edges into i from nodes below n that are not in pl -/
def deg (rows : Nat → List Nat) (pl : List Nat) : Nat → Nat → Nat
  | 0, _ => 0
  | n + 1, i => deg rows pl n i + if n ∈ pl then 0 else (rows n).count i

theorem deg_place (rows : Nat → List Nat) (pl : List Nat) (p : Nat) (hp : p ∉ pl) (i : Nat) : ∀ n, deg rows pl n i = deg rows (pl ++ [p]) n i + if p < n then (rows p).count i else 0 := by
  intro n
  induction n with
  | zero => simp [deg]
  | succ n ih =>
    simp only [deg, ih]
    by_cases e : n = p
    · subst e
      simp [hp]
    · have e1 : n ∈ pl ++ [p] ↔ n ∈ pl := by simp [e]
      have e2 : p < n + 1 ↔ p < n := by omega
      simp only [e1, e2]
      omega

/-- the nodes free to be placed after pl, by the counts wt -/
def fre (n : Nat) (pl : List Nat) (wt : Nat → Nat) : Nat → Bool := fun i => decide (i < n ∧ i ∉ pl ∧ wt i = 0)

/-- the order so far -/
structure Ord (rows : Nat → List Nat) (n : Nat) (pl : List Nat) : Prop where
  lt : ∀ x, x ∈ pl → x < n
  nd : pl.Nodup
  zero : ∀ x, x ∈ pl → deg rows pl n x = 0

theorem Ord.nil (rows : Nat → List Nat) (n : Nat) : Ord rows n [] := ⟨by simp, by simp, by simp⟩

theorem Ord.place {rows : Nat → List Nat} {n : Nat} {pl : List Nat} (h : Ord rows n pl) {p : Nat} (hf : fre n pl (deg rows pl n) p = true) : Ord rows n (pl ++ [p]) := by
  simp only [fre, decide_eq_true_eq] at hf
  obtain ⟨f1, f2, f3⟩ := hf
  refine ⟨?_, ?_, ?_⟩
  · intro x hx
    simp at hx
    rcases hx with hx | rfl
    · exact h.lt x hx
    · exact f1
  · rw [List.nodup_append]
    refine ⟨h.nd, by simp, ?_⟩
    intro a ha b hb
    simp at hb
    subst hb
    exact fun e => f2 (e ▸ ha)
  · intro x hx
    have hd := deg_place rows pl p f2 x n
    simp at hx
    rcases hx with hx | rfl
    · have := h.zero x hx
      omega
    · omega

theorem pigeon : ∀ (n : Nat) (l : List Nat), l.Nodup → (∀ x, x ∈ l → x < n) → l.length ≤ n := by
  intro n
  induction n with
  | zero =>
    intro l _ h
    cases l with
    | nil => simp
    | cons a l => exact absurd (h a (by simp)) (by omega)
  | succ n ih =>
    intro l nd h
    have h1 := ih (l.erase n) (nd.erase n) (fun x hx => by
      have a1 := h x (List.mem_of_mem_erase hx)
      have a2 : x ≠ n := by
        rintro rfl
        exact (List.Nodup.not_mem_erase nd) hx
      omega)
    rw [List.length_erase] at h1
    split at h1 <;> omega

theorem Ord.len {rows : Nat → List Nat} {n : Nat} {pl : List Nat} (h : Ord rows n pl) : pl.length ≤ n := pigeon n pl h.nd h.lt

/-- the greedy order: the smallest free node, at most 'fuel' times -/
def run (rows : Nat → List Nat) (n : Nat) : Nat → List Nat → List Nat
  | 0, pl => pl
  | k + 1, pl => if low (fre n pl (deg rows pl n)) n 0 < n then run rows n k (pl ++ [low (fre n pl (deg rows pl n)) n 0]) else pl

/-- where a walk stands on its way to T -/
structure Way (rows : Nat → List Nat) (n : Nat) (T pl : List Nat) : Prop where
  ord : Ord rows n pl
  run : run rows n (n - pl.length) pl = T

theorem Way.start (rows : Nat → List Nat) (n : Nat) : Way rows n (Ybulkblde.run rows n n []) [] := ⟨Ord.nil rows n, by simp⟩

theorem Way.stop {rows : Nat → List Nat} {n : Nat} {T pl : List Nat} (h : Way rows n T pl) (hl : IsLow (fre n pl (deg rows pl n)) n n) : T = pl := by
  have e := hl.uniq (low_isLow _ n)
  rw [← h.run]
  cases hk : n - pl.length with
  | zero => rfl
  | succ k =>
    unfold Ybulkblde.run
    rw [if_neg (by omega)]

theorem Way.full {rows : Nat → List Nat} {n : Nat} {T pl : List Nat} (h : Way rows n T pl) (hl : pl.length = n) : T = pl := by
  rw [← h.run, hl, Nat.sub_self]; rfl

theorem Way.next {rows : Nat → List Nat} {n : Nat} {T pl : List Nat} (h : Way rows n T pl) {q : Nat} (hl : IsLow (fre n pl (deg rows pl n)) n q) (hq : q < n) : pl.length < n ∧ Way rows n T (pl ++ [q]) := by
  have e := hl.uniq (low_isLow _ n)
  have ho := h.ord.place (hl.yes hq)
  have hlen := ho.len
  simp at hlen
  refine ⟨by omega, ho, ?_⟩
  rw [← h.run]
  have : n - pl.length = (n - (pl ++ [q]).length) + 1 := by simp; omega
  rw [this]
  conv => rhs; unfold Ybulkblde.run
  rw [← e, if_pos hq]

theorem Way.none {rows : Nat → List Nat} {n : Nat} {T pl : List Nat} (h : Way rows n T pl) (hl : IsLow (fre n pl (deg rows pl n)) n n) : pl.length = n ∨ (T = pl ∧ T.length < n) := by
  have := h.stop hl
  have := h.ord.len
  by_cases e : pl.length = n
  · exact .inl e
  · right; refine ⟨by assumption, ?_⟩; subst T; omega

/-- 'Place p' after j edges of p's row: the counts are wt, the free nodes fre n (pl ++ [p]) wt -/
structure Plc (rows : Nat → List Nat) (n : Nat) (pl : List Nat) (p j : Nat) (wt : Nat → Nat) : Prop where
  val : ∀ i, i < n → wt i = deg rows (pl ++ [p]) n i + ((rows p).drop j).count i

theorem Plc.start {rows : Nat → List Nat} {n : Nat} {pl : List Nat} {p : Nat} {wt : Nat → Nat} (h : ∀ i, i < n → wt i = deg rows pl n i) (hp : p ∉ pl) (hn : p < n) : Plc rows n pl p 0 wt := by
  refine ⟨fun i hi => ?_⟩
  rw [h i hi, deg_place rows pl p hp i n, if_pos hn]
  simp

theorem Plc.end_ {rows : Nat → List Nat} {n : Nat} {pl : List Nat} {p : Nat} {wt : Nat → Nat} (h : Plc rows n pl p (rows p).length wt) : ∀ i, i < n → wt i = deg rows (pl ++ [p]) n i := by
  intro i hi
  rw [h.val i hi]; simp

theorem Plc.step {rows : Nat → List Nat} {n : Nat} {pl : List Nat} {p j : Nat} {wt : Nat → Nat} (h : Plc rows n pl p j wt) (hj : j < (rows p).length) (hm : (rows p)[j] < n) :
    1 ≤ wt ((rows p)[j]) ∧ Plc rows n pl p (j + 1) (fun i => if i = (rows p)[j] then wt i - 1 else wt i) := by
  have hd : (rows p).drop j = (rows p)[j] :: (rows p).drop (j + 1) := List.drop_eq_getElem_cons hj
  refine ⟨?_, ?_⟩
  · rw [h.val _ hm, hd, List.count_cons_self]; omega
  · refine ⟨fun i hi => ?_⟩
    have := h.val i hi
    rw [hd, List.count_cons] at this
    by_cases e : i = (rows p)[j]
    · simp [← e] at this
      simp [← e]; omega
    · have e' : ¬ (rows p)[j] = i := fun a => e a.symm
      simp [e'] at this
      simp [e]; omega

theorem Plc.not_mem {rows : Nat → List Nat} {n : Nat} {pl : List Nat} {p j : Nat} (ho : Ord rows n pl) (hf : fre n pl (deg rows pl n) p = true) (hj : j < (rows p).length) : (rows p)[j] ∉ pl ++ [p] := by
  have ho' := ho.place hf
  simp only [fre, decide_eq_true_eq] at hf
  obtain ⟨f1, f2, f3⟩ := hf
  intro hm
  have hd := deg_place rows pl p f2 ((rows p)[j]) n
  rw [if_pos f1] at hd
  have hz : deg rows pl n ((rows p)[j]) = 0 := by
    simp only [List.mem_append, List.mem_singleton] at hm
    rcases hm with hm | hm
    · exact ho.zero _ hm
    · rw [hm]; exact f3
  have : 0 < (rows p).count ((rows p)[j]) := List.count_pos_iff.2 (List.getElem_mem hj)
  omega

/-- an edge to a node that others still hold back: no node comes free -/
theorem fre_keep {n : Nat} {pl : List Nat} {m : Nat} {wt : Nat → Nat} (h1 : 1 ≤ wt m) (h2 : wt m - 1 ≠ 0) : fre n pl (fun i => if i = m then wt i - 1 else wt i) = fre n pl wt := by
  funext i
  unfold fre
  by_cases e : i = m
  · subst e
    have : ¬ wt i = 0 := by omega
    simp [h2, this]
  · simp [e]

theorem fre_put {n : Nat} {pl : List Nat} {m : Nat} {wt : Nat → Nat} (hm : m < n) (hp : m ∉ pl) (h1 : wt m - 1 = 0) : fre n pl (fun i => if i = m then wt i - 1 else wt i) = put (fre n pl wt) m true := by
  funext i
  unfold fre put
  by_cases e : i = m
  · subst e
    simp [hm, hp, h1]
  · simp [e]

theorem fre_not {n : Nat} {pl : List Nat} {m : Nat} {wt : Nat → Nat} (h1 : 1 ≤ wt m) : fre n pl wt m = false := by
  unfold fre
  simp; omega

theorem fre_out {n : Nat} {pl : List Nat} {p : Nat} {wt : Nat → Nat} : fre n (pl ++ [p]) wt = put (fre n pl wt) p false := by
  funext i
  unfold fre put
  by_cases e : i = p
  · subst e; simp
  · simp [e]

theorem fre_congr {n : Nat} {pl : List Nat} {wt wt' : Nat → Nat} (h : ∀ i, i < n → wt i = wt' i) : fre n pl wt = fre n pl wt' := by
  funext i
  unfold fre
  by_cases hi : i < n
  · simp [h i hi]
  · simp [hi]

/-! ### counting the edges -/
/-- after k whole rows and j edges of row k -/
structure Cnt (rows : Nat → List Nat) (n k j : Nat) (wt : Nat → Nat) : Prop where
  val : ∀ i, i < n → wt i = deg rows [] k i + ((rows k).take j).count i

theorem Cnt.start {rows : Nat → List Nat} {n : Nat} {wt : Nat → Nat} (h : ∀ i, i < n → wt i = 0) : Cnt rows n 0 0 wt := ⟨fun i hi => by simp [h i hi, deg]⟩

theorem Cnt.step {rows : Nat → List Nat} {n k j : Nat} {wt : Nat → Nat} (h : Cnt rows n k j wt) (hj : j < (rows k).length) : Cnt rows n k (j + 1) (fun i => if i = (rows k)[j] then wt i + 1 else wt i) := by
  refine ⟨fun i hi => ?_⟩
  have := h.val i hi
  rw [List.take_succ_eq_append_getElem hj, List.count_append]
  by_cases e : i = (rows k)[j]
  · simp [← e]; omega
  · have e' : ¬ (rows k)[j] = i := fun a => e a.symm
    have : List.count i [(rows k)[j]] = 0 := by simp [e']
    simp only [if_neg e]
    omega

theorem Cnt.row {rows : Nat → List Nat} {n k : Nat} {wt : Nat → Nat} (h : Cnt rows n k (rows k).length wt) : Cnt rows n (k + 1) 0 wt := by
  refine ⟨fun i hi => ?_⟩
  have := h.val i hi
  simp at this
  simp [deg]; omega

theorem Cnt.end_ {rows : Nat → List Nat} {n : Nat} {wt : Nat → Nat} (h : Cnt rows n n 0 wt) : ∀ i, i < n → wt i = deg rows [] n i := by
  intro i hi
  have := h.val i hi
  simpa using this

theorem deg_le (rows : Nat → List Nat) (pl : List Nat) (C : Nat) (i : Nat) : ∀ n, (∀ a, a < n → (rows a).length ≤ C) → deg rows pl n i ≤ n * C := by
  intro n
  induction n with
  | zero => intro _; simp [deg]
  | succ n ih =>
    intro h
    have h1 := ih (fun a ha => h a (by omega))
    have h2 := h n (by omega)
    have h3 : (rows n).count i ≤ (rows n).length := List.count_le_length
    simp only [deg]
    rw [Nat.succ_mul]
    split <;> omega

end Go.Proofs.Ybulkblde
