/- Plain: what the bytes of a compressed set say, and the numbers of KSUIDs. -/
import Derived.Test.YtbacbgicfomkbaaNextLaw
import Derived.Test.YtbacbgicfomkbaaSortL
namespace Go.Proofs.Ytbacbgicfomkbaa
open Go.RowKit
set_option linter.unusedVariables false
/-- A KSUID's time and its payload, as numbers. -/
def tOf (x : List UInt8) : Nat := num (x.take 4)
def vOf (x : List UInt8) : Nat := num (x.drop 4)
def kid (t v : Nat) : List UInt8 := be 4 t ++ be 16 v
theorem kid_length (t v : Nat) : (kid t v).length = 20 := by rw [kid, List.length_append, be_length, be_length]
theorem be_split (k : Nat) : ∀ (n v : Nat), be (k + n) v = be k (v / 256 ^ n) ++ be n v
  | 0, v => by simp [be]
  | n + 1, v => by
    rw [show k + (n + 1) = (k + n) + 1 from rfl, be, be_split k n (v / 256), Nat.div_div_eq_div_mul, Nat.mul_comm, ← Nat.pow_succ, List.append_assoc]
    rfl
theorem be16_split (v : Nat) : be 16 v = be 8 (v / 18446744073709551616) ++ be 8 v := be_split 8 8 v
theorem be_mod (n v : Nat) : be n (v % 256 ^ n) = be n v := by
  have h := be_num (be n v)
  rw [be_length, num_be] at h
  exact h
theorem be8_mod (v : Nat) : be 8 (v % 18446744073709551616) = be 8 v := be_mod 8 v
theorem be_drop (k n v : Nat) : (be (k + n) v).drop k = be n v := by rw [be_split, List.drop_left' (be_length k _)]
theorem tOf_lt (x : List UInt8) : tOf x < 4294967296 := by
  have := num_lt (x.take 4)
  have h2 : 256 ^ (x.take 4).length ≤ 256 ^ 4 := Nat.pow_le_pow_right (by decide) (by rw [List.length_take]; omega)
  exact Nat.lt_of_lt_of_le this h2
theorem vOf_lt (x : List UInt8) (h : x.length = 20) : vOf x < 340282366920938463463374607431768211456 := by
  have := num_lt (x.drop 4)
  rw [List.length_drop, h] at this
  exact this
theorem kid_of (x : List UInt8) (h : x.length = 20) : kid (tOf x) (vOf x) = x := by
  have h1 := be_num (x.take 4)
  have h2 := be_num (x.drop 4)
  have l1 : (x.take 4).length = 4 := by rw [List.length_take, h]; rfl
  have l2 : (x.drop 4).length = 16 := by rw [List.length_drop, h]
  rw [l1] at h1
  rw [l2] at h2
  show be 4 (num (x.take 4)) ++ be 16 (num (x.drop 4)) = x
  rw [h1, h2]
  exact List.take_append_drop _ _
theorem num_kid (x : List UInt8) (h : x.length = 20) : num x = tOf x * 340282366920938463463374607431768211456 + vOf x := by
  have := num_append (x.take 4) (x.drop 4)
  rw [List.take_append_drop, List.length_drop, h] at this
  exact this
theorem vOf_parts (x : List UInt8) (h : x.length = 20) : num (x.drop 12) = vOf x % 18446744073709551616 ∧ num ((x.drop 4).take 8) = vOf x / 18446744073709551616 := by
  have h1 := num_append ((x.drop 4).take 8) ((x.drop 4).drop 8)
  rw [List.take_append_drop, List.drop_drop, List.length_drop, h] at h1
  have h2 := num_lt (x.drop 12)
  rw [List.length_drop, h] at h2
  have e : (256 : Nat) ^ (20 - (4 + 8)) = 18446744073709551616 := by decide
  have e2 : (256 : Nat) ^ (20 - 12) = 18446744073709551616 := by decide
  rw [e, show 4 + 8 = 12 from rfl] at h1
  rw [e2] at h2
  unfold vOf
  rw [h1]
  omega
theorem tOf_kid (t v : Nat) (h : t < 4294967296) : tOf (kid t v) = t := by
  show num ((kid t v).take 4) = t
  rw [kid, List.take_left' (be_length 4 t), num_be, Nat.mod_eq_of_lt]
  exact h
theorem vOf_kid (t v : Nat) (h : v < 340282366920938463463374607431768211456) : vOf (kid t v) = v := by
  show num ((kid t v).drop 4) = v
  rw [kid, List.drop_left' (be_length 4 t), num_be, Nat.mod_eq_of_lt]
  exact h
/-- KSUIDs one behind the other, of one time. -/
def runs (t v : Nat) : Nat → List (List UInt8)
  | 0 => []
  | m + 1 => kid t (v + 1) :: runs t (v + 1) m
theorem runs_length (t : Nat) : ∀ (m v : Nat), (runs t v m).length = m
  | 0, _ => rfl
  | m + 1, v => by rw [runs, List.length_cons, runs_length t m]
/-- What the bytes of a compressed set say, behind a KSUID of time t and payload v. -/
inductive Enc : Nat → Nat → List (List UInt8) → List UInt8 → Prop
  | nil (t v : Nat) : Enc t v [] []
  | raw (t v : Nat) (x : List UInt8) (ks : List (List UInt8)) (b : List UInt8) : x.length = 20 → Enc (tOf x) (vOf x) ks b → Enc t v (x :: ks) (0 :: (x ++ b))
  | time (t v d n : Nat) (p : List UInt8) (ks : List (List UInt8)) (b : List UInt8) : 1 ≤ n → n ≤ 4 → d < 256 ^ n → t + d < 4294967296 → p.length = 16 → Enc (t + d) (num p) ks b → Enc t v ((be 4 (t + d) ++ p) :: ks) (UInt8.ofNat (64 + n) :: (be n d ++ (p ++ b)))
  | delta (t v d n : Nat) (ks : List (List UInt8)) (b : List UInt8) : 1 ≤ n → n ≤ 16 → d < 256 ^ n → v + d < 340282366920938463463374607431768211456 → Enc t (v + d) ks b → Enc t v (kid t (v + d) :: ks) (UInt8.ofNat (128 + n) :: (be n d ++ b))
  | range (t v m n : Nat) (ks : List (List UInt8)) (b : List UInt8) : 1 ≤ m → 1 ≤ n → n ≤ 8 → m < 256 ^ n → v + m < 340282366920938463463374607431768211456 → Enc t (v + m) ks b → Enc t v (runs t v m ++ ks) (UInt8.ofNat (192 + n) :: (be n m ++ b))
/-- An iterator's state: what it gives from here on. -/
def Rest (c : List UInt8) (off seq t v : Nat) (ks : List (List UInt8)) : Prop :=
  off ≤ c.length ∧ t < 4294967296 ∧ v + seq < 340282366920938463463374607431768211456 ∧ seq < 18446744073709551616 ∧ ∃ js, ks = runs t v seq ++ js ∧ Enc t (v + seq) js (c.drop off)
/-- In order, and none twice: by numbers. -/
def Asc (ks : List (List UInt8)) : Prop := ∀ i, i + 1 < ks.length → num (ks.getD i []) < num (ks.getD (i + 1) [])
theorem Asc.step {ks : List (List UInt8)} (h : Asc ks) (h20 : ∀ x ∈ ks, x.length = 20) (i : Nat) (hi : i + 1 < ks.length) : tOf (ks.getD i []) ≤ tOf (ks.getD (i + 1) []) ∧ (tOf (ks.getD i []) = tOf (ks.getD (i + 1) []) → vOf (ks.getD i []) < vOf (ks.getD (i + 1) [])) := by
  have h1 := h i hi
  have l1 := h20 _ (getD_mem (d := []) (show i < ks.length by omega))
  have l2 := h20 _ (getD_mem (d := []) hi)
  have v1 := vOf_lt _ l1
  have v2 := vOf_lt _ l2
  rw [num_kid _ l1, num_kid _ l2] at h1
  generalize tOf (ks.getD i []) = a at *
  generalize vOf (ks.getD i []) = b at *
  generalize tOf (ks.getD (i + 1) []) = c at *
  generalize vOf (ks.getD (i + 1) []) = d at *
  omega
/-- What a run finds, as a list. -/
theorem runs_of (t : Nat) : ∀ (m v : Nat) (ks : List (List UInt8)), m ≤ ks.length → (∀ x ∈ ks, x.length = 20) → (∀ j, j < m → tOf (ks.getD j []) = t ∧ vOf (ks.getD j []) = v + 1 + j) → ks = runs t v m ++ ks.drop m
  | 0, _, _, _, _, _ => rfl
  | m + 1, v, [], h, _, _ => by simp at h
  | m + 1, v, k :: ks, h, h20, hj => by
    have h0 := hj 0 (by omega)
    have hk : k = kid t (v + 1) := by
      have e := kid_of k (h20 k (List.mem_cons_self ..))
      have e1 : tOf k = t := h0.1
      have e2 : vOf k = v + 1 := h0.2
      rw [e1, e2] at e
      exact e.symm
    have ih := runs_of t m (v + 1) ks (by simpa using h) (fun x hx => h20 x (List.mem_cons_of_mem _ hx)) (fun j hj' => by
      have := hj (j + 1) (by omega)
      have e : (k :: ks).getD (j + 1) [] = ks.getD j [] := by simp
      rw [e] at this
      exact ⟨this.1, by omega⟩)
    rw [runs, List.cons_append, List.drop_succ_cons, ← ih, ← hk]
end Go.Proofs.Ytbacbgicfomkbaa
