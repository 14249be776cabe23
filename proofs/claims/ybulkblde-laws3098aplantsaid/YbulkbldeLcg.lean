/-
  PLAIN ARITHMETIC: the generator's step s -> s*a + c modulo 2^128 (a = 1 mod 4, c odd) comes to every state, so to one whose upper half is 0. No Go in this text.
-/
namespace Go.Proofs.Ybulkblde.Lcg
/-- the sum 1 + a + .. + a^(n-1) -/
def G (a : Int) : Nat → Int
  | 0 => 0
  | n + 1 => G a n + a ^ n

theorem G_add (a : Int) (m n : Nat) : G a (m + n) = G a m + a ^ m * G a n := by
  induction n with
  | zero => simp [G]
  | succ n ih =>
    rw [Nat.add_succ]
    simp only [G, ih, Int.pow_add]
    grind

theorem pow_two_pow (a : Int) (q : Int) (ha : a = 1 + 4 * q) (k : Nat) : ∃ v : Int, a ^ (2 ^ k) = 1 + 2 ^ (k + 2) * v := by
  induction k with
  | zero => exact ⟨q, by rw [ha]; grind⟩
  | succ k ih =>
    obtain ⟨v, hv⟩ := ih
    refine ⟨v + 2 ^ (k + 1) * v * v, ?_⟩
    rw [Nat.pow_succ, Int.pow_mul, hv]
    have e3 : (2 : Int) ^ (k + 1 + 2) = 8 * 2 ^ k := by rw [Int.pow_add, Int.pow_add]; grind
    have e2 : (2 : Int) ^ (k + 2) = 4 * 2 ^ k := by rw [Int.pow_add]; grind
    have e1 : (2 : Int) ^ (k + 1) = 2 * 2 ^ k := by rw [Int.pow_add]; grind
    rw [e3, e2, e1]
    grind

theorem G_two_pow (a : Int) (q : Int) (ha : a = 1 + 4 * q) (k : Nat) : ∃ u : Int, G a (2 ^ k) = 2 ^ k * (1 + 2 * u) := by
  induction k with
  | zero => exact ⟨0, by simp [G]⟩
  | succ k ih =>
    obtain ⟨u, hu⟩ := ih
    obtain ⟨v, hv⟩ := pow_two_pow a q ha k
    refine ⟨u + 2 ^ k * v + 2 * u * 2 ^ k * v, ?_⟩
    rw [show 2 ^ (k + 1) = 2 ^ k + 2 ^ k by rw [Nat.pow_succ]; omega, G_add, hv, hu]
    have e2 : (2 : Int) ^ (k + 2) = 4 * 2 ^ k := by rw [Int.pow_add]; grind
    have e1 : (2 : Int) ^ (k + 1) = 2 * 2 ^ k := by rw [Int.pow_add]; grind
    rw [e2, e1]
    grind

/-- n steps of s ↦ s*a + c -/
def F (a c : Int) (n : Nat) (s : Int) : Int := s * a ^ n + c * G a n

theorem F_add (a c : Int) (m n : Nat) (s : Int) : F a c (m + n) s = F a c n (F a c m s) := by
  unfold F
  rw [show G a (m + n) = G a n + a ^ n * G a m by rw [Nat.add_comm, G_add], Int.pow_add]
  generalize a ^ m = x
  generalize a ^ n = y
  grind

theorem reach (a c q r : Int) (ha : a = 1 + 4 * q) (hc : c = 1 + 2 * r) (s t : Int) (k : Nat) : ∃ n : Nat, ∃ d : Int, F a c n s = t + 2 ^ k * d := by
  induction k with
  | zero => exact ⟨0, s - t, by simp [F, G]; omega⟩
  | succ k ih =>
    obtain ⟨n, d, hd⟩ := ih
    obtain ⟨v, hv⟩ := pow_two_pow a q ha k
    obtain ⟨u, hu⟩ := G_two_pow a q ha k
    have e2 : (2 : Int) ^ (k + 2) = 4 * 2 ^ k := by rw [Int.pow_add]; grind
    have e1 : (2 : Int) ^ (k + 1) = 2 * 2 ^ k := by rw [Int.pow_add]; grind
    rcases (show d % 2 = 0 ∨ d % 2 = 1 by omega) with h | h
    · obtain ⟨e, rfl⟩ : ∃ e, d = 2 * e := ⟨d / 2, by omega⟩
      exact ⟨n, e, by rw [hd, e1]; grind⟩
    · obtain ⟨e, rfl⟩ : ∃ e, d = 2 * e + 1 := ⟨d / 2, by omega⟩
      refine ⟨n + 2 ^ k, e + 1 + u + r + 2 * u * r + 2 * v * (t + 2 ^ k * (2 * e + 1)), ?_⟩
      rw [F_add, hd]
      simp only [F, hv, hu, e1, e2, hc]
      grind


/-- The step modulo m, and n of them. -/
def stepM (a c m s : Nat) : Nat := (s * a + c) % m

def stepsM (a c m : Nat) : Nat → Nat → Nat
  | 0, s => s
  | n + 1, s => stepsM a c m n (stepM a c m s)

theorem stepM_int (a c m s : Nat) : ∃ e : Int, (stepM a c m s : Int) = (s : Int) * a + c + m * e := by
  refine ⟨-((((s * a + c) / m : Nat)) : Int), ?_⟩
  have h := Nat.div_add_mod (s * a + c) m
  unfold stepM
  generalize (s * a + c) % m = r at *
  generalize (s * a + c) / m = q at *
  have h' : ((m * q + r : Nat) : Int) = ((s * a + c : Nat) : Int) := by rw [h]
  simp only [Int.natCast_add, Int.natCast_mul] at h'
  grind

theorem stepsM_F (a c m n : Nat) : ∀ s : Nat, ∃ d : Int, (stepsM a c m n s : Int) = F a c n s + m * d := by
  induction n with
  | zero => intro s; exact ⟨0, by simp [stepsM, F, G]⟩
  | succ n ih =>
    intro s
    obtain ⟨d, hd⟩ := ih (stepM a c m s)
    obtain ⟨e, he⟩ := stepM_int a c m s
    refine ⟨d + e * (a : Int) ^ n, ?_⟩
    have h1 : stepsM a c m (n + 1) s = stepsM a c m n (stepM a c m s) := rfl
    rw [h1, hd, he, show n + 1 = 1 + n by omega, F_add]
    simp only [F, G]
    generalize (a : Int) ^ n = y
    grind

theorem stepsM_lt (a c m : Nat) (hm : 0 < m) (n : Nat) : ∀ s, s < m → stepsM a c m n s < m := by
  induction n with
  | zero => intro s hs; exact hs
  | succ n ih => intro s _; exact ih _ (Nat.mod_lt _ hm)

/-- From whatever state the steps modulo 2^k come to 0. -/
theorem comesM (a c q r k : Nat) (ha : a = 1 + 4 * q) (hc : c = 1 + 2 * r) (s : Nat) (hs : s < 2 ^ k) : ∃ n, stepsM a c (2 ^ k) n s = 0 := by
  obtain ⟨n, d, hd⟩ := reach a c q r (by omega) (by omega) s 0 k
  obtain ⟨e, he⟩ := stepsM_F a c (2 ^ k) n s
  have hlt := stepsM_lt a c (2 ^ k) (Nat.pow_pos (by omega)) n s hs
  refine ⟨n, ?_⟩
  generalize stepsM a c (2 ^ k) n s = x at *
  have e2 : ((2 ^ k : Nat) : Int) = (2 : Int) ^ k := by simp
  rw [hd, e2] at he
  have hlt' : (x : Int) < (2 : Int) ^ k := by rw [← e2]; omega
  generalize (2 : Int) ^ k = M at *
  have hx : (x : Int) = M * (d + e) := by grind
  have h0 : 0 ≤ d + e := by
    by_cases h : 0 ≤ d + e
    · exact h
    · exfalso
      have : M * (d + e) ≤ M * (-1) := Int.mul_le_mul_of_nonneg_left (by omega) (by omega)
      omega
  by_cases h1 : d + e = 0
  · rw [h1] at hx; omega
  · exfalso
    have : M * 1 ≤ M * (d + e) := Int.mul_le_mul_of_nonneg_left (by omega) (by omega)
    omega

end Go.Proofs.Ybulkblde.Lcg
