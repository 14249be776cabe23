/-
  PLAIN: where each id stands in the schedule of the plant; what the plant has turned among the steps. No run of the program here.
-/
import Derived.Test.YbulkbldeSteps
namespace Go.Proofs.Ybulkblde

/-- The place of step j of the transaction that is q-th in the order drawn. -/
def ps (k at_ first q j : Nat) : Nat :=
  if q = 0 then (if j ≤ first then at_ * k + j else at_ * k + k + j)
  else if q = 1 then at_ * k + (first + 1) + j
  else if q - 2 < at_ then (q - 2) * k + j
  else q * k + j

theorem mul_lt_of {a b k : Nat} (h : a < b) : a * k + k ≤ b * k := by
  have := Nat.mul_le_mul_right k (show a + 1 ≤ b by omega)
  rw [Nat.add_mul] at this
  omega

theorem ps_lt_tot {n k at_ first q j : Nat} (hn : 2 ≤ n) (hf : first + 1 < k) (hat : at_ ≤ n - 2) (hq : q < n) (hj : j < k) : ps k at_ first q j < n * k := by
  have h1 : at_ * k + 2 * k ≤ n * k := by
    rw [← Nat.add_mul]; exact Nat.mul_le_mul_right k (by omega)
  have h2 := mul_lt_of (k := k) hq
  unfold ps
  split
  · split <;> omega
  · split
    · omega
    · split
      · have := mul_lt_of (k := k) (show q - 2 < n by omega)
        omega
      · omega

theorem ps_mono {k at_ first q j : Nat} : ps k at_ first q j < ps k at_ first q (j + 1) := by
  unfold ps
  by_cases e0 : q = 0
  · rw [if_pos e0, if_pos e0]
    by_cases e1 : j + 1 ≤ first
    · rw [if_pos e1, if_pos (by omega)]; omega
    · rw [if_neg e1]
      by_cases e2 : j ≤ first
      · rw [if_pos e2]; omega
      · rw [if_neg e2]; omega
  · rw [if_neg e0, if_neg e0]
    by_cases e1 : q = 1
    · rw [if_pos e1, if_pos e1]; omega
    · rw [if_neg e1, if_neg e1]
      by_cases e2 : q - 2 < at_
      · rw [if_pos e2, if_pos e2]; omega
      · rw [if_neg e2, if_neg e2]; omega

theorem ps_run {k at_ first q : Nat} (hq : q ≠ 0) (j : Nat) : ps k at_ first q j = ps k at_ first q 0 + j := by
  unfold ps
  rw [if_neg hq, if_neg hq]
  by_cases e1 : q = 1
  · rw [if_pos e1, if_pos e1]; omega
  · rw [if_neg e1, if_neg e1]
    by_cases e2 : q - 2 < at_
    · rw [if_pos e2, if_pos e2]; omega
    · rw [if_neg e2, if_neg e2]; omega

theorem idf_ps {p : Nat → Nat} {n k at_ first q j : Nat} (_hn : 2 ≤ n) (hf : first + 1 < k) (hq : q < n) (hj : j < k) :
    idf p k at_ (p 0) (p 1) first (ps k at_ first q j) = p q * k + j := by
  have hk : 0 < k := by omega
  unfold ps
  by_cases e0 : q = 0
  · subst e0
    rw [if_pos rfl]
    by_cases ej : j ≤ first
    · rw [if_pos ej]
      unfold idf
      rw [if_neg (by omega), if_pos (by omega)]
      omega
    · rw [if_neg ej]
      unfold idf
      rw [if_neg (by omega), if_neg (by omega), if_neg (by omega), if_pos (by omega)]
      omega
  · rw [if_neg e0]
    by_cases e1 : q = 1
    · subst e1
      rw [if_pos rfl]
      unfold idf
      rw [if_neg (by omega), if_neg (by omega), if_pos (by omega)]
      omega
    · rw [if_neg e1]
      by_cases e2 : q - 2 < at_
      · rw [if_pos e2]
        have h := mul_lt_of (k := k) e2
        obtain ⟨d1, d2⟩ := div_mod_of k (q - 2) ((q - 2) * k + j) (by omega) (by omega)
        unfold idf
        rw [if_pos (by omega), d1, d2, show 2 + (q - 2) = q by omega]
        omega
      · rw [if_neg e2]
        have h : at_ * k + 2 * k ≤ q * k := by rw [← Nat.add_mul]; exact Nat.mul_le_mul_right k (by omega)
        obtain ⟨d1, d2⟩ := div_mod_of k q (q * k + j) (by omega) (by omega)
        unfold idf
        rw [if_neg (by omega), if_neg (by omega), if_neg (by omega), if_neg (by omega), d1, d2]
        omega

theorem ps_sur {n k at_ first : Nat} (hn : 2 ≤ n) (hf : first + 1 < k) (hat : at_ ≤ n - 2) (i : Nat) (hi : i < n * k) : ∃ q j, q < n ∧ j < k ∧ ps k at_ first q j = i := by
  have hk : 0 < k := by omega
  have hm := Nat.mod_lt i hk
  have hd := Nat.div_add_mod i k
  rw [Nat.mul_comm] at hd
  by_cases e1 : i < at_ * k
  · have hq : i / k < at_ := by rw [Nat.div_lt_iff_lt_mul hk]; exact e1
    generalize i / k = qd at *
    generalize i % k = md at *
    refine ⟨2 + qd, md, by omega, hm, ?_⟩
    unfold ps
    rw [if_neg (by omega), if_neg (by omega), if_pos (by omega), show 2 + qd - 2 = qd by omega]
    exact hd
  · by_cases e2 : i < at_ * k + (first + 1)
    · refine ⟨0, i - at_ * k, by omega, by omega, ?_⟩
      unfold ps
      rw [if_pos rfl, if_pos (by omega)]
      omega
    · by_cases e3 : i < at_ * k + (first + 1) + k
      · refine ⟨1, i - (at_ * k + (first + 1)), by omega, by omega, ?_⟩
        unfold ps
        rw [if_neg (by omega), if_pos rfl]
        omega
      · by_cases e4 : i < at_ * k + 2 * k
        · refine ⟨0, i - (at_ * k + k), by omega, by omega, ?_⟩
          unfold ps
          rw [if_pos rfl, if_neg (by omega)]
          omega
        · have hq : i / k < n := by rw [Nat.div_lt_iff_lt_mul hk]; exact hi
          have hq2 : at_ + 2 ≤ i / k := by
            rw [Nat.le_div_iff_mul_le hk, Nat.add_mul]
            omega
          generalize i / k = qd at *
          generalize i % k = md at *
          refine ⟨qd, md, hq, hm, ?_⟩
          unfold ps
          rw [if_neg (by omega), if_neg (by omega), if_neg (by omega)]
          exact hd

theorem id_inj {k a b i j : Nat} (hi : i < k) (hj : j < k) (h : a * k + i = b * k + j) : a = b ∧ i = j := by
  have d1 := div_mod_of k a (a * k + i) (by omega) (by omega)
  have d2 := div_mod_of k b (a * k + i) (by omega) (by omega)
  have e : a = b := d1.1.symm.trans d2.1
  subst e
  exact ⟨rfl, by omega⟩

theorem idf_lt {p : Nat → Nat} {n k at_ first : Nat} (hp : Prm n p) (hn : 2 ≤ n) (hf : first + 1 < k) (hat : at_ ≤ n - 2) (i : Nat) (hi : i < n * k) : idf p k at_ (p 0) (p 1) first i < n * k := by
  obtain ⟨q, j, hq, hj, rfl⟩ := ps_sur hn hf hat i hi
  rw [idf_ps hn hf hq hj]
  exact id_lt (hp.lt q hq) hj

theorem idf_inj {p : Nat → Nat} {n k at_ first : Nat} (hp : Prm n p) (hn : 2 ≤ n) (hf : first + 1 < k) (hat : at_ ≤ n - 2) (i i' : Nat) (hi : i < n * k) (hi' : i' < n * k)
    (h : idf p k at_ (p 0) (p 1) first i = idf p k at_ (p 0) (p 1) first i') : i = i' := by
  obtain ⟨q, j, hq, hj, rfl⟩ := ps_sur hn hf hat i hi
  obtain ⟨q', j', hq', hj', rfl⟩ := ps_sur hn hf hat i' hi'
  rw [idf_ps hn hf hq hj, idf_ps hn hf hq' hj'] at h
  obtain ⟨h1, h2⟩ := id_inj hj hj' h
  rw [hp.inj q q' hq hq' h1, h2]

/-- The reads of x among the first d steps from base on are made reads. -/
def rdz (s : Nat → St) (base d : Nat) (x : Nat) : Nat → St := fun i => if base ≤ i ∧ i < base + d ∧ (s i).it = x then ⟨1, (s i).txn, (s i).it⟩ else s i

theorem rdz_zero (s : Nat → St) (base : Nat) (x : Nat) : rdz s base 0 x = s := by
  funext i
  unfold rdz
  rw [if_neg (by omega)]
theorem rdz_it (s : Nat → St) (base d : Nat) (x : Nat) (i : Nat) : (rdz s base d x i).it = (s i).it ∧ (rdz s base d x i).txn = (s i).txn := by
  unfold rdz
  split <;> exact ⟨rfl, rfl⟩
theorem rdz_hit (s : Nat → St) (base d : Nat) (x : Nat) (h : (s (base + d)).it = x) : rdz s base (d + 1) x = upd (rdz s base d x) (base + d) ⟨1, (s (base + d)).txn, (s (base + d)).it⟩ := by
  funext i
  unfold rdz upd
  by_cases e : i = base + d
  · subst e
    rw [if_pos rfl, if_pos ⟨by omega, by omega, h⟩]
  · rw [if_neg e]
    dsimp only
    by_cases e2 : base ≤ i ∧ i < base + d ∧ (s i).it = x
    · rw [if_pos e2, if_pos ⟨e2.1, by omega, e2.2.2⟩]
    · rw [if_neg e2, if_neg (fun h' => e2 ⟨h'.1, by omega, h'.2.2⟩)]
theorem rdz_miss (s : Nat → St) (base d : Nat) (x : Nat) (h : (s (base + d)).it ≠ x) : rdz s base (d + 1) x = rdz s base d x := by
  funext i
  unfold rdz
  by_cases e2 : base ≤ i ∧ i < base + d ∧ (s i).it = x
  · rw [if_pos e2, if_pos ⟨e2.1, by omega, e2.2.2⟩]
  · rw [if_neg e2]
    rw [if_neg]
    rintro ⟨a, b, c⟩
    by_cases e : i = base + d
    · subst e; exact h c
    · exact e2 ⟨a, by omega, c⟩

/-- The steps behind the plant. -/
def plS (s : Nat → St) (k wt rt first second read x : Nat) : Nat → St :=
  upd (rdz (upd (upd s (wt * k + first) ⟨2, wt + 1, x⟩) (wt * k + second) ⟨2, wt + 1, x⟩) (rt * k) read x) (rt * k + read) ⟨1, rt + 1, x⟩


theorem upd_ne {s : Nat → St} {id i : Nat} {v : St} (h : i ≠ id) : upd s id v i = s i := by unfold upd; rw [if_neg h]
theorem upd_eq (s : Nat → St) (id : Nat) (v : St) : upd s id v id = v := by unfold upd; rw [if_pos rfl]
theorem rdz_out {s : Nat → St} {base d x i : Nat} (h : ¬ (base ≤ i ∧ i < base + d)) : rdz s base d x i = s i := by
  unfold rdz
  rw [if_neg (fun h' => h ⟨h'.1, h'.2.1⟩)]
theorem rdz_in {s : Nat → St} {base d x i : Nat} (h1 : base ≤ i) (h2 : i < base + d) : rdz s base d x i = if (s i).it = x then ⟨1, (s i).txn, (s i).it⟩ else s i := by
  unfold rdz
  by_cases e : (s i).it = x
  · rw [if_pos ⟨h1, h2, e⟩, if_pos e]
  · rw [if_neg (fun h' => e h'.2.2), if_neg e]

section
variable {s : Nat → St} {k wt rt first second read x : Nat}

/-- Of a transaction that is neither w nor r nothing has turned. -/
theorem plS_other (hf : first < k) (hs : second < k) (hr : read < k) {t j : Nat} (hj : j < k) (h1 : t ≠ wt) (h2 : t ≠ rt) : plS s k wt rt first second read x (t * k + j) = s (t * k + j) := by
  have n1 : t * k + j ≠ wt * k + first := fun e => h1 (id_inj hj hf e).1
  have n2 : t * k + j ≠ wt * k + second := fun e => h1 (id_inj hj hs e).1
  have n3 : t * k + j ≠ rt * k + read := fun e => h2 (id_inj hj hr e).1
  have n4 : ¬ (rt * k ≤ t * k + j ∧ t * k + j < rt * k + read) := by
    rintro ⟨a, b⟩
    exact h2 (id_inj hj (show t * k + j - rt * k < k by omega) (show t * k + j = rt * k + (t * k + j - rt * k) by omega)).1
  unfold plS
  rw [upd_ne n3, rdz_out n4, upd_ne n2, upd_ne n1]

/-- w's steps: two are laid anew. -/
theorem plS_w (hf : first < k) (hs : second < k) (hr : read < k) (hne : wt ≠ rt) {j : Nat} (hj : j < k) :
    plS s k wt rt first second read x (wt * k + j) = if j = first ∨ j = second then ⟨2, wt + 1, x⟩ else s (wt * k + j) := by
  have n3 : wt * k + j ≠ rt * k + read := fun e => hne (id_inj hj hr e).1
  have n4 : ¬ (rt * k ≤ wt * k + j ∧ wt * k + j < rt * k + read) := by
    rintro ⟨a, b⟩
    exact hne (id_inj hj (show wt * k + j - rt * k < k by omega) (show wt * k + j = rt * k + (wt * k + j - rt * k) by omega)).1
  unfold plS
  rw [upd_ne n3, rdz_out n4]
  by_cases e1 : j = second
  · subst e1; rw [upd_eq, if_pos (Or.inr rfl)]
  · rw [upd_ne (show ¬ wt * k + j = wt * k + second by omega)]
    by_cases e2 : j = first
    · subst e2; rw [upd_eq, if_pos (Or.inl rfl)]
    · rw [upd_ne (show ¬ wt * k + j = wt * k + first by omega), if_neg (by omega)]

/-- r's steps. -/
theorem plS_r (hf : first < k) (hs : second < k) (hne : wt ≠ rt) {j : Nat} (hj : j < k) :
    plS s k wt rt first second read x (rt * k + j) = if j = read then ⟨1, rt + 1, x⟩ else if j < read ∧ (s (rt * k + j)).it = x then ⟨1, (s (rt * k + j)).txn, (s (rt * k + j)).it⟩ else s (rt * k + j) := by
  have n1 : rt * k + j ≠ wt * k + first := fun e => hne (id_inj hj hf e).1.symm
  have n2 : rt * k + j ≠ wt * k + second := fun e => hne (id_inj hj hs e).1.symm
  have n12 : ∀ u v, upd (upd s (wt * k + first) u) (wt * k + second) v (rt * k + j) = s (rt * k + j) := fun u v => by rw [upd_ne n2, upd_ne n1]
  unfold plS
  by_cases e1 : j = read
  · subst e1; rw [upd_eq, if_pos rfl]
  · rw [upd_ne (show ¬ rt * k + j = rt * k + read by omega), if_neg e1]
    by_cases e2 : j < read
    · rw [rdz_in (by omega) (by omega), n12]
      by_cases e3 : (s (rt * k + j)).it = x
      · rw [if_pos e3, if_pos ⟨e2, e3⟩]
      · rw [if_neg e3, if_neg (fun h => e3 h.2)]
    · rw [rdz_out (by omega), n12, if_neg (fun h => e2 h.1)]
end

theorem itm_lit (x : Nat) (hx : x < 26) : itm x = ⟨#[UInt8.ofNat (65 + x)]⟩ := by
  have h : ∀ y : Fin 26, itm y.1 = ⟨#[UInt8.ofNat (65 + y.1)]⟩ := by decide +kernel
  exact h ⟨x, hx⟩
theorem itm_size (x : Nat) (hx : x < 26) : (itm x).size = 1 := by rw [itm_lit x hx]; rfl
theorem itm_index (x : Nat) (hx : x < 26) (w : World) : (Instr.index 9 (.string (itm x)) (.int .i64 0)).run Yba.prog w = .ok (.int .u8 ((65 + x : Nat) : Int)) w := by
  have e : (UInt8.ofNat (65 + x)).toNat = 65 + x := by simp; omega
  rw [itm_lit x hx]
  generalize UInt8.ofNat (65 + x) = c at *
  simp [Instr.index, go_sem, run_underlying Yba.underlying9]
  show ((c.toNat : Nat) : Int) = _
  omega

end Go.Proofs.Ybulkblde
