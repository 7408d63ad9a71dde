/- ULID's text: plain laws, with no program in sight. -/
import Derived.Test.YtcojcohipmoopaaDoorURead
namespace Go.Proofs.YtcojcohipmoopaaDoor
open Go.RowKit
set_option linter.unusedVariables false
set_option linter.unusedSimpArgs false

def dg32 : List UInt8 := [48, 49, 50, 51, 52, 53, 54, 55, 56, 57, 65, 66, 67, 68, 69, 70, 71, 72, 74, 75, 77, 78, 80, 81, 82, 83, 84, 86, 87, 88, 89, 90]
theorem or_join (k m n : Nat) (hm : m % 2 ^ k = 0) (hn : n < 2 ^ k) : m ||| n = m + n := by
  have h := Nat.div_add_mod m (2 ^ k)
  rw [hm, Nat.add_zero] at h
  rw [← h, ← Nat.two_pow_add_eq_or_of_lt hn]
theorem joinA (q x y : Nat) (hx : x < 32) (hy : y < 32) : x * 2 ^ 5 % 256 ||| y = ((q * 32 + x) * 32 + y) % 256 := by
  rw [or_join 5 _ _ (by omega) (by omega)]; omega
theorem joinC3 (q x y : Nat) (hx : x < 32) (hy : y < 32) : x * 2 ^ 3 % 256 ||| y / 2 ^ 2 = ((q * 32 + x) * 32 + y) / 4 % 256 := by
  rw [or_join 3 _ _ (by omega) (by omega)]; omega
theorem joinC4 (q x y : Nat) (hx : x < 32) (hy : y < 32) : x * 2 ^ 4 % 256 ||| y / 2 ^ 1 = ((q * 32 + x) * 32 + y) / 2 % 256 := by
  rw [or_join 4 _ _ (by omega) (by omega)]; omega
theorem joinB6 (q x y z : Nat) (hx : x < 32) (hy : y < 32) (hz : z < 32) : x * 2 ^ 6 % 256 ||| y * 2 ^ 1 % 256 ||| z / 2 ^ 4 = (((q * 32 + x) * 32 + y) * 32 + z) / 16 % 256 := by
  rw [or_join 6 (x * 2 ^ 6 % 256) (y * 2 ^ 1 % 256) (by omega) (by omega), or_join 1 _ _ (by omega) (by omega)]; omega
theorem joinB7 (q x y z : Nat) (hx : x < 32) (hy : y < 32) (hz : z < 32) : x * 2 ^ 7 % 256 ||| y * 2 ^ 2 % 256 ||| z / 2 ^ 3 = (((q * 32 + x) * 32 + y) * 32 + z) / 8 % 256 := by
  rw [or_join 7 (x * 2 ^ 7 % 256) (y * 2 ^ 2 % 256) (by omega) (by omega), or_join 2 _ _ (by omega) (by omega)]; omega
/-- The number that the first k signs are. -/
def hn (T : List UInt8) : Nat → Nat
  | 0 => 0
  | k + 1 => hn T k * 32 + dv T k
theorem hn_div (T : List UInt8) (h : ∀ i, i < 26 → dv T i < 32) : ∀ m k, m + k = 26 → hn T 26 / 32 ^ m = hn T k
  | 0, k, hk => by rw [Nat.pow_zero, Nat.div_one, show k = 26 by omega]
  | m + 1, k, hk => by
    have ih := hn_div T h m (k + 1) (by omega)
    rw [Nat.pow_succ, ← Nat.div_div_eq_div_mul, ih]
    have := h k (by omega)
    show (hn T k * 32 + dv T k) / 32 = hn T k
    omega
theorem B_ext {a b : List UInt8} (hl : a.length = b.length) (h : ∀ j, j < a.length → B a j = B b j) : a = b := by
  apply List.ext_getElem hl
  intro j h1 h2
  apply UInt8.toNat_inj.1
  have := h j h1
  simpa [B, h1, h2] using this
theorem uB_be (T : List UInt8) (h : ∀ i, i < 26 → dv T i < 32) : uB T = be 16 (hn T 26) := by
  have H := hn_div T h
  have key : ∀ j m k s, m + k = 26 → 32 ^ m * 2 ^ s = 256 ^ (15 - j) → hn T k / 2 ^ s % 256 = hn T 26 / 256 ^ (15 - j) % 256 := fun j m k s h1 h2 => by
    rw [← H m k h1, Nat.div_div_eq_div_mul, h2]
  have e : uvals T = (List.range 16).map fun j => hn T 26 / 256 ^ (15 - j) % 256 := by
    show _ = [hn T 26 / 256 ^ (15 - 0) % 256, hn T 26 / 256 ^ (15 - 1) % 256, hn T 26 / 256 ^ (15 - 2) % 256, hn T 26 / 256 ^ (15 - 3) % 256, hn T 26 / 256 ^ (15 - 4) % 256, hn T 26 / 256 ^ (15 - 5) % 256, hn T 26 / 256 ^ (15 - 6) % 256, hn T 26 / 256 ^ (15 - 7) % 256, hn T 26 / 256 ^ (15 - 8) % 256, hn T 26 / 256 ^ (15 - 9) % 256, hn T 26 / 256 ^ (15 - 10) % 256, hn T 26 / 256 ^ (15 - 11) % 256, hn T 26 / 256 ^ (15 - 12) % 256, hn T 26 / 256 ^ (15 - 13) % 256, hn T 26 / 256 ^ (15 - 14) % 256, hn T 26 / 256 ^ (15 - 15) % 256]
    rw [← key 0 24 2 0 rfl (by decide), ← key 1 22 4 2 rfl (by decide), ← key 2 20 6 4 rfl (by decide), ← key 3 19 7 1 rfl (by decide), ← key 4 17 9 3 rfl (by decide), ← key 5 16 10 0 rfl (by decide), ← key 6 14 12 2 rfl (by decide), ← key 7 12 14 4 rfl (by decide), ← key 8 11 15 1 rfl (by decide), ← key 9 9 17 3 rfl (by decide), ← key 10 8 18 0 rfl (by decide), ← key 11 6 20 2 rfl (by decide), ← key 12 4 22 4 rfl (by decide), ← key 13 3 23 1 rfl (by decide), ← key 14 1 25 3 rfl (by decide), ← key 15 0 26 0 rfl (by decide)]
    unfold uvals
    rw [joinA (hn T 0) _ _ (h 0 (by decide)) (h 1 (by decide)), joinC3 (hn T 2) _ _ (h 2 (by decide)) (h 3 (by decide)), joinB6 (hn T 3) _ _ _ (h 3 (by decide)) (h 4 (by decide)) (h 5 (by decide)), joinC4 (hn T 5) _ _ (h 5 (by decide)) (h 6 (by decide)), joinB7 (hn T 6) _ _ _ (h 6 (by decide)) (h 7 (by decide)) (h 8 (by decide)),
      joinA (hn T 8) _ _ (h 8 (by decide)) (h 9 (by decide)), joinC3 (hn T 10) _ _ (h 10 (by decide)) (h 11 (by decide)), joinB6 (hn T 11) _ _ _ (h 11 (by decide)) (h 12 (by decide)) (h 13 (by decide)), joinC4 (hn T 13) _ _ (h 13 (by decide)) (h 14 (by decide)), joinB7 (hn T 14) _ _ _ (h 14 (by decide)) (h 15 (by decide)) (h 16 (by decide)),
      joinA (hn T 16) _ _ (h 16 (by decide)) (h 17 (by decide)), joinC3 (hn T 18) _ _ (h 18 (by decide)) (h 19 (by decide)), joinB6 (hn T 19) _ _ _ (h 19 (by decide)) (h 20 (by decide)) (h 21 (by decide)), joinC4 (hn T 21) _ _ (h 21 (by decide)) (h 22 (by decide)), joinB7 (hn T 22) _ _ _ (h 22 (by decide)) (h 23 (by decide)) (h 24 (by decide)), joinA (hn T 24) _ _ (h 24 (by decide)) (h 25 (by decide))]
    simp only [Nat.pow_zero, Nat.div_one]
    rfl
  refine B_ext (by rw [be_length]; simp [uB, uvals]) fun j hj => ?_
  have hj' : j < 16 := by simpa [uB, uvals] using hj
  rw [B_be _ _ _ hj']
  simp [B, uB, e, hj']
theorem dec_digit : ∀ d, d < 32 → dec32 (dg32.getD d 0).toNat = d ∧ dec32 (loB (dg32.getD d 0)).toNat = d ∧ (d ≤ 7 → (dg32.getD d 0).toNat ≤ 55 ∧ (loB (dg32.getD d 0)).toNat ≤ 55) := by decide +kernel
/-- A text whose signs have the values of the digits of n. -/
theorem hn_digits (T : List UInt8) (n : Nat) (hn' : n < 32 ^ 26) (h : ∀ i, i < 26 → dv T i = n / 32 ^ (25 - i) % 32) : hn T 26 = n := by
  have key : ∀ k, k ≤ 26 → hn T k = n / 32 ^ (26 - k) := by
    intro k
    induction k with
    | zero => intro _; rw [Nat.div_eq_of_lt hn']; rfl
    | succ k ih =>
      intro hk
      have e : 32 ^ (26 - k) = 32 ^ (26 - (k + 1)) * 32 := by rw [← Nat.pow_succ, show (26 - (k + 1)).succ = 26 - k by omega]
      show hn T k * 32 + dv T k = _
      rw [ih (by omega), h k (by omega), e, ← Nat.div_div_eq_div_mul, show 25 - k = 26 - (k + 1) by omega]
      omega
  rw [key 26 (Nat.le_refl _), Nat.sub_self, Nat.pow_zero, Nat.div_one]
theorem anyBad_no {T : List UInt8} : ∀ n, (∀ i, i < n → dv T i ≠ 255) → anyBad T n = false
  | 0, _ => rfl
  | n + 1, h => by
    unfold anyBad
    rw [anyBad_no n (fun i hi => h i (by omega)), Bool.false_or, decide_eq_false (h n (by omega))]
/-- The text of x, and the same with small letters. -/
theorem text_values (x : List UInt8) (hx : x.length = 16) (f : UInt8 → UInt8) (hf : ∀ d, d < 32 → dec32 (f (dg32.getD d 0)).toNat = d ∧ (d ≤ 7 → (f (dg32.getD d 0)).toNat ≤ 55)) (strict : Bool) :
    refuses ((writ dg32 26 (num x)).map f) strict = false ∧ uB ((writ dg32 26 (num x)).map f) = x := by
  have hlt := num_lt x
  rw [hx] at hlt
  have hB : ∀ i, i < 26 → B ((writ dg32 26 (num x)).map f) i = (f (dg32.getD (num x / 32 ^ (25 - i) % 32) 0)).toNat := fun i hi => by
    have hl : i < (writ dg32 26 (num x)).length := by rw [writ_length]; exact hi
    have := B_writ dg32 26 (num x) i hi
    simp only [B] at this ⊢
    simp [writ, hi, dg32]
  have hv : ∀ i, i < 26 → dv ((writ dg32 26 (num x)).map f) i = num x / 32 ^ (25 - i) % 32 := fun i hi => by
    unfold dv
    rw [hB i hi]
    exact (hf _ (Nat.mod_lt _ (by decide))).1
  have h32 : ∀ i, i < 26 → dv ((writ dg32 26 (num x)).map f) i < 32 := fun i hi => by rw [hv i hi]; exact Nat.mod_lt _ (by decide)
  have h7 : num x / 32 ^ (25 - 0) % 32 ≤ 7 := by
    have : num x / 32 ^ 25 < 8 := by
      rw [Nat.div_lt_iff_lt_mul (by decide)]
      exact Nat.lt_of_lt_of_le hlt (by decide)
    show num x / 32 ^ 25 % 32 ≤ 7
    omega
  refine ⟨?_, ?_⟩
  · unfold refuses
    rw [anyBad_no 26 (fun i hi => by have := h32 i hi; omega), Bool.and_false, Bool.false_or, decide_eq_false]
    rw [hB 0 (by decide)]
    have := (hf _ (Nat.mod_lt (num x / 32 ^ (25 - 0)) (by decide : 32 > 0))).2 h7
    omega
  · rw [uB_be _ h32, hn_digits _ (num x) (Nat.lt_of_lt_of_le hlt (by decide)) hv, ← hx]
    exact be_num x
theorem text_upper (x : List UInt8) (hx : x.length = 16) (strict : Bool) : refuses (writ dg32 26 (num x)) strict = false ∧ uB (writ dg32 26 (num x)) = x := by
  have := text_values x hx id (fun d hd => ⟨(dec_digit d hd).1, fun h => ((dec_digit d hd).2.2 h).1⟩) strict
  rwa [List.map_id] at this
theorem text_lower (x : List UInt8) (hx : x.length = 16) (strict : Bool) : refuses ((writ dg32 26 (num x)).map loB) strict = false ∧ uB ((writ dg32 26 (num x)).map loB) = x :=
  text_values x hx loB (fun d hd => ⟨(dec_digit d hd).2.1, fun h => ((dec_digit d hd).2.2 h).2⟩) strict
end Go.Proofs.YtcojcohipmoopaaDoor
