/- A generator of numbers, x becomes a x + c modulo 2 to the power of 32: it comes to every number from every other; which bytes it never gives one behind the other. Plain laws, with no program in sight. -/
import Derived.Test.YtcojcohipmoopaaRows
namespace Go.Proofs.Ytcojcohipmoopaa

/-- A step again and again. -/
def itF (f : Nat → Nat) : Nat → Nat → Nat
  | 0, x => x
  | n + 1, x => itF f n (f x)
theorem itF_zero (f : Nat → Nat) (x : Nat) : itF f 0 x = x := rfl
theorem itF_succ (f : Nat → Nat) (n x : Nat) : itF f (n + 1) x = itF f n (f x) := rfl
theorem itF_add (f : Nat → Nat) (m n x : Nat) : itF f (n + m) x = itF f m (itF f n x) := by
  induction n generalizing x with
  | zero => rw [Nat.zero_add]; rfl
  | succ n ih => rw [Nat.succ_add, itF_succ, itF_succ]; exact ih _
/-- One step, with nothing cut off. -/
def aff (x : Nat) : Nat := x * 1664525 + 1013904223
/-- One step. -/
def lcg (x : Nat) : Nat := aff x % 4294967296
def itL (n x : Nat) : Nat := itF lcg n x
def itA (n x : Nat) : Nat := itF aff n x
theorem itL_add (m n x : Nat) : itL (n + m) x = itL m (itL n x) := itF_add lcg m n x
theorem itA_add (m n x : Nat) : itA (n + m) x = itA m (itA n x) := itF_add aff m n x
theorem itL_zero (x : Nat) : itL 0 x = x := itF_zero lcg x
theorem itL_succ (n x : Nat) : itL (n + 1) x = itL n (lcg x) := itF_succ lcg n x
theorem itA_succ (n x : Nat) : itA (n + 1) x = itA n (aff x) := itF_succ aff n x
theorem lcg_lt (x : Nat) : lcg x < 4294967296 := Nat.mod_lt _ (by decide)
theorem aff_mod {x y : Nat} (h : x % 4294967296 = y % 4294967296) : aff x % 4294967296 = aff y % 4294967296 := by unfold aff; omega
theorem lcg_mod (x : Nat) : lcg x % 4294967296 = aff x % 4294967296 := by unfold lcg; exact Nat.mod_mod _ _
theorem lcg_mod4 (x : Nat) : (lcg x + 1) % 4 = x % 4 := by unfold lcg aff; omega
theorem itA_mod (n x y : Nat) (h : x % 4294967296 = y % 4294967296) : itA n x % 4294967296 = itA n y % 4294967296 := by
  induction n generalizing x y with
  | zero => exact h
  | succ n ih => rw [itA_succ, itA_succ]; exact ih _ _ (aff_mod h)
theorem itL_eq (n x : Nat) (h : x < 4294967296) : itL n x = itA n x % 4294967296 := by
  induction n generalizing x with
  | zero => exact (Nat.mod_eq_of_lt h).symm
  | succ n ih =>
    rw [itL_succ, itA_succ, ih _ (lcg_lt x)]
    exact itA_mod n _ _ (lcg_mod x)
theorem itL_lt (n x : Nat) (h : x < 4294967296) : itL n x < 4294967296 := by
  rw [itL_eq n x h]
  exact Nat.mod_lt _ (by decide)
theorem itA_one (x : Nat) : itA 1 x = x * (1 + 4 * 416131) + (1 + 2 * 506952111) := by rw [show (1 : Nat) = 0 + 1 from rfl, itA_succ]; show aff x = _; unfold aff; omega
/-- Twice as many steps: the factor and the term. -/
theorem twice (x p u v : Nat) : (x * (1 + p * 4 * u) + p * (1 + 2 * v)) * (1 + p * 4 * u) + p * (1 + 2 * v) = x * (1 + p * 8 * (u + (p + p) * (u * u))) + (p + p) * (1 + 2 * (p * u + v + (p + p) * (u * v))) := by
  simp only [Nat.mul_add, Nat.add_mul, Nat.mul_one]
  have e1 : x * (p * 4 * u) * (p * 4 * u) = 16 * (x * (p * p) * (u * u)) := by
    rw [show x * (p * 4 * u) * (p * 4 * u) = (4 * 4) * (x * (p * p) * (u * u)) by simp only [Nat.mul_comm, Nat.mul_left_comm, Nat.mul_assoc]]
  have e2 : p * (2 * v) * (p * 4 * u) = 8 * (p * p * (u * v)) := by
    rw [show p * (2 * v) * (p * 4 * u) = (2 * 4) * (p * p * (u * v)) by simp only [Nat.mul_comm, Nat.mul_left_comm, Nat.mul_assoc]]
  have e3 : p * (p * 4 * u) = 4 * (p * p * u) := by simp only [Nat.mul_comm, Nat.mul_left_comm, Nat.mul_assoc]
  have e4 : x * (p * 4 * u) = 4 * (x * (p * u)) := by simp only [Nat.mul_comm, Nat.mul_left_comm, Nat.mul_assoc]
  have e5 : x * (p * 8 * u) = 8 * (x * (p * u)) := by simp only [Nat.mul_comm, Nat.mul_left_comm, Nat.mul_assoc]
  have e6 : x * (p * 8 * (p * (u * u))) = 8 * (x * (p * p) * (u * u)) := by simp only [Nat.mul_comm, Nat.mul_left_comm, Nat.mul_assoc]
  have e7 : p * (2 * (p * u)) = 2 * (p * p * u) := by simp only [Nat.mul_comm, Nat.mul_left_comm, Nat.mul_assoc]
  have e8 : p * (2 * (p * (u * v))) = 2 * (p * p * (u * v)) := by simp only [Nat.mul_comm, Nat.mul_left_comm, Nat.mul_assoc]
  have e9 : p * (2 * v) = 2 * (p * v) := by simp only [Nat.mul_left_comm]
  omega
theorem itA_pow (k : Nat) : ∃ u v, ∀ x, itA (2 ^ k) x = x * (1 + 2 ^ k * 4 * u) + 2 ^ k * (1 + 2 * v) := by
  induction k with
  | zero => exact ⟨416131, 506952111, fun x => by rw [Nat.pow_zero, itA_one]⟩
  | succ k ih =>
    obtain ⟨u, v, h⟩ := ih
    refine ⟨u + (2 ^ k + 2 ^ k) * (u * u), 2 ^ k * u + v + (2 ^ k + 2 ^ k) * (u * v), fun x => ?_⟩
    rw [show 2 ^ (k + 1) = 2 ^ k + 2 ^ k by rw [Nat.pow_succ]; omega, itA_add, h, h, twice, show (2 ^ k + 2 ^ k) * 4 = 2 ^ k * 8 by omega]
/-- Every number is come to, as far as k places of two go. -/
theorem itA_all (k : Nat) : ∀ x y, ∃ n, itA n x % 2 ^ k = y % 2 ^ k := by
  induction k with
  | zero => exact fun x y => ⟨0, by rw [Nat.pow_zero, Nat.mod_one, Nat.mod_one]⟩
  | succ k ih =>
    intro x y
    obtain ⟨n, hn⟩ := ih x y
    by_cases he : itA n x % 2 ^ (k + 1) = y % 2 ^ (k + 1)
    · exact ⟨n, he⟩
    · obtain ⟨u, v, h⟩ := itA_pow k
      refine ⟨n + 2 ^ k, ?_⟩
      rw [itA_add, h]
      generalize itA n x = z at *
      have e1 : z * (1 + 2 ^ k * 4 * u) + 2 ^ k * (1 + 2 * v) = z + 2 ^ k + 2 ^ (k + 1) * (2 * (z * u) + v) := by
        rw [show 2 ^ (k + 1) = 2 ^ k * 2 by rw [Nat.pow_succ]]
        generalize 2 ^ k = p
        simp only [Nat.mul_add, Nat.mul_one]
        have e1 : z * (p * 4 * u) = 4 * (p * (z * u)) := by simp only [Nat.mul_comm, Nat.mul_left_comm, Nat.mul_assoc]
        have e2 : p * 2 * (2 * (z * u)) = 4 * (p * (z * u)) := by
          rw [show p * 2 * (2 * (z * u)) = 2 * 2 * (p * (z * u)) by simp only [Nat.mul_comm, Nat.mul_left_comm, Nat.mul_assoc]]
        have e3 : p * (2 * v) = p * 2 * v := by simp only [Nat.mul_comm, Nat.mul_left_comm]
        omega
      rw [e1, Nat.add_mul_mod_self_left]
      have hp : 0 < 2 ^ k := Nat.pow_pos (by decide)
      rw [Nat.pow_succ] at he ⊢
      generalize 2 ^ k = p at *
      rw [Nat.mod_mul, Nat.mod_mul] at he ⊢
      rw [Nat.add_mod_right, Nat.add_div_right _ hp, hn]
      rw [hn] at he
      rcases Nat.mod_two_eq_zero_or_one (z / p) with h1 | h1 <;> rcases Nat.mod_two_eq_zero_or_one (y / p) with h2 | h2
      · exact absurd (by rw [h1, h2]) he
      · rw [h2, show (z / p).succ % 2 = 1 by omega]
      · rw [h2, show (z / p).succ % 2 = 0 by omega]
      · exact absurd (by rw [h1, h2]) he
/-- All of them. -/
theorem itL_all (x y : Nat) (hx : x < 4294967296) (hy : y < 4294967296) : ∃ n, itL n x = y := by
  obtain ⟨n, h⟩ := itA_all 32 x y
  exact ⟨n, by rw [itL_eq n x hx, show (4294967296 : Nat) = 2 ^ 32 from rfl, h, Nat.mod_eq_of_lt hy]⟩
/-- Behind so many steps it is where it was. -/
theorem itL_period : ∃ p, p % 15 = 1 ∧ p % 4 = 0 ∧ ∀ x, x < 4294967296 → itL p x = x := by
  obtain ⟨u, v, h⟩ := itA_pow 32
  obtain ⟨p, hp⟩ : ∃ p, p = 2 ^ 32 := ⟨_, rfl⟩
  rw [← hp] at h
  have hp' : 4294967296 = p := hp.symm
  refine ⟨p, by omega, by omega, fun x hx => ?_⟩
  rw [itL_eq _ x hx, h, hp']
  have : x * (1 + p * 4 * u) + p * (1 + 2 * v) = x + p * (4 * (x * u) + 1 + 2 * v) := by
    simp only [Nat.mul_add, Nat.mul_one]
    have e1 : x * (p * 4 * u) = p * (4 * (x * u)) := by simp only [Nat.mul_comm, Nat.mul_left_comm, Nat.mul_assoc]
    omega
  rw [this, Nat.add_mul_mod_self_left]
  exact Nat.mod_eq_of_lt (by omega)
theorem itL_periods {p : Nat} (h : ∀ x, x < 4294967296 → itL p x = x) (k x : Nat) (hx : x < 4294967296) : itL (k * p) x = x := by
  induction k with
  | zero => rw [Nat.zero_mul, itL_zero]
  | succ k ih => rw [Nat.succ_mul, itL_add, ih, h x hx]
theorem itL_four (n x : Nat) : (itL n x + n) % 4 = x % 4 := by
  induction n generalizing x with
  | zero => rw [itL_zero]; rfl
  | succ n ih =>
    have h := ih (lcg x)
    have h' := lcg_mod4 x
    rw [itL_succ]
    omega
/-- Of four numbers, one for each rest by four, one is come to in a multiple of sixty steps. -/
theorem itL_sixty (g : Nat → Nat) (hg : ∀ r, r < 4 → g r < 4294967296 ∧ g r % 4 = r) (x : Nat) (hx : x < 4294967296) : ∃ n r, r < 4 ∧ itL (60 * n) x = g r := by
  have hr : x % 4 < 4 := Nat.mod_lt _ (by decide)
  obtain ⟨h1, h2⟩ := hg _ hr
  obtain ⟨n, hn⟩ := itL_all x (g (x % 4)) hx h1
  have h4 := itL_four n x
  rw [hn] at h4
  obtain ⟨p, hp1, hp2, hp⟩ := itL_period
  obtain ⟨k, hk⟩ : ∃ k, k = 15 - n % 15 := ⟨_, rfl⟩
  have h5 : (n + k * p) % 15 = 0 := by rw [Nat.add_mod, Nat.mul_mod, hp1]; omega
  have h6 : (n + k * p) % 4 = 0 := by rw [Nat.add_mod, Nat.mul_mod, hp2]; omega
  refine ⟨(n + k * p) / 60, x % 4, hr, ?_⟩
  have e : 60 * ((n + k * p) / 60) = n + k * p := by omega
  rw [e, itL_add, hn]
  exact itL_periods hp _ _ h1

/-! The tries of the package's random: the states ahead of them. -/
def good (b r : Nat) : Nat := ([3883342388, 3939897317, 3921045674, 3902194031, 3556057636, 3537205993, 3593760922, 3574909279, 1985348856, 1225260725, 1432628798, 1708988827, 3427695648, 4005681965, 1803247042, 2381233359, 713059056, 3481043269, 3990037630, 204064695, 788465628, 845020557, 901575486, 958130415] : List Nat).getD (4 * b + r) 0
theorem good_is : ∀ b, b < 6 → ∀ r, r < 4 → good b r < 4294967296 ∧ good b r % 4 = r ∧ lcg (good b r) / 16777216 = 1 ∧ (b = 0 ∨ itL (b + 1) (good b r) / 16777216 = 0) := by decide
/-- From every state, behind some whole tries of b + 1 bytes, one whose first byte is 1 and, where there are more, whose last one is 0. -/
theorem try_comes (b : Nat) (hb : b < 6) (x : Nat) (hx : x < 4294967296) : ∃ n y, itL ((b + 1) * n) x = y ∧ lcg y / 16777216 = 1 ∧ (b = 0 ∨ itL (b + 1) y / 16777216 = 0) := by
  obtain ⟨n, r, hr, h⟩ := itL_sixty (good b) (fun r hr => ⟨(good_is b hb r hr).1, (good_is b hb r hr).2.1⟩) x hx
  obtain ⟨_, _, h3, h4⟩ := good_is b hb r hr
  have hd : (b + 1) * (60 / (b + 1)) = 60 := by
    have : b = 0 ∨ b = 1 ∨ b = 2 ∨ b = 3 ∨ b = 4 ∨ b = 5 := by omega
    rcases this with rfl | rfl | rfl | rfl | rfl | rfl <;> rfl
  refine ⟨60 / (b + 1) * n, good b r, ?_, h3, h4⟩
  rw [← Nat.mul_assoc, hd, h]

/-! Which bytes it never gives. -/
def allLt (p : Nat → Bool) : Nat → Bool
  | 0 => true
  | n + 1 => p n && allLt p n
theorem allLt_is (p : Nat → Bool) : ∀ (n : Nat), allLt p n = true → ∀ i, i < n → p i = true
  | n + 1, h, i, hi => by
    unfold allLt at h
    rw [Bool.and_eq_true] at h
    by_cases e : i = n
    · rw [e]; exact h.1
    · exact allLt_is p n h.2 i (by omega)
/-- A state and the next one: the first is one of a few behind the smallest one of those with the next one at least lo. -/
def first (lo q : Nat) : Nat := (q * 4294967296 + lo + 1664524 - 1013904223) / 1664525
theorem near (lo x : Nat) (h1 : lo ≤ lcg x) (h2 : lcg x < lo + 16777216) (hq : 1013904223 ≤ aff x / 4294967296 * 4294967296 + lo + 1664524) : first lo (aff x / 4294967296) ≤ x ∧ x - first lo (aff x / 4294967296) < 12 := by
  unfold lcg aff at h1 h2
  unfold first aff
  unfold aff at hq
  omega
def zeros (x : Nat) : Bool := decide (x < 16777216) && decide (lcg x < 16777216) && decide (lcg (lcg x) < 16777216) && decide (lcg (lcg (lcg x)) < 16777216) && decide (lcg (lcg (lcg (lcg x))) < 16777216)
def ones (x : Nat) : Bool := decide (4278190080 ≤ x) && decide (4278190080 ≤ lcg x) && decide (4278190080 ≤ lcg (lcg x)) && decide (4278190080 ≤ lcg (lcg (lcg x))) && decide (3976200192 ≤ lcg (lcg (lcg (lcg x))))
theorem no_zeros_chk : allLt (fun q => allLt (fun j => !zeros (first 0 (q + 1) + j)) 12) 6503 = true := by decide +kernel
theorem no_ones_chk : allLt (fun q => allLt (fun j => !ones (first 4278190080 (q + 1657000) + j)) 12) 8000 = true := by decide +kernel
theorem no_zeros (x : Nat) : zeros x = false := by
  rw [Bool.eq_false_iff]
  intro h
  have h' := h
  unfold zeros at h'
  simp only [Bool.and_eq_true, decide_eq_true_eq] at h'
  obtain ⟨⟨⟨⟨h1, h2⟩, _⟩, _⟩, _⟩ := h'
  obtain ⟨q, hq⟩ : ∃ q, aff x / 4294967296 = q + 1 := ⟨aff x / 4294967296 - 1, by unfold lcg at h2; unfold aff at h2 ⊢; omega⟩
  have hn := near 0 x (Nat.zero_le _) (by omega) (by rw [hq]; omega)
  rw [hq] at hn
  have hq' : q < 6503 := by unfold aff at hq; omega
  have h6 := allLt_is _ _ (allLt_is _ _ no_zeros_chk q hq') (x - first 0 (q + 1)) hn.2
  rw [show first 0 (q + 1) + (x - first 0 (q + 1)) = x by omega, h] at h6
  cases h6
theorem no_ones (x : Nat) (hx : x < 4294967296) : ones x = false := by
  rw [Bool.eq_false_iff]
  intro h
  have h' := h
  unfold ones at h'
  simp only [Bool.and_eq_true, decide_eq_true_eq] at h'
  obtain ⟨⟨⟨⟨h1, h2⟩, _⟩, _⟩, _⟩ := h'
  obtain ⟨q, hq⟩ : ∃ q, aff x / 4294967296 = q + 1657000 := ⟨aff x / 4294967296 - 1657000, by unfold aff; omega⟩
  have hn := near 4278190080 x h2 (by have := lcg_lt x; omega) (by rw [hq]; omega)
  rw [hq] at hn
  have hq' : q < 8000 := by unfold aff at hq; omega
  have h6 := allLt_is _ _ (allLt_is _ _ no_ones_chk q hq') (x - first 4278190080 (q + 1657000)) hn.2
  rw [show first 4278190080 (q + 1657000) + (x - first 4278190080 (q + 1657000)) = x by omega, h] at h6
  cases h6
end Go.Proofs.Ytcojcohipmoopaa
