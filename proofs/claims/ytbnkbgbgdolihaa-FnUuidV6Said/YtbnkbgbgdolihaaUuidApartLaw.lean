/- The plain laws behind FnUuidApart: the UUIDs of one clock differ. -/
import Derived.Test.YtbnkbgbgdolihaaUuidApartMain
import Derived.Test.YtbnkbgbgdolihaaUuidV7TimeWalk
namespace Go.Proofs.Ytbnkbgbgdolihaa
open Go.RowKit
set_option linter.unusedVariables false
theorem B_app_left (a b : List UInt8) (i : Nat) (h : i < a.length) : B (a ++ b) i = B a i := by
  unfold B
  rw [List.getD_eq_getElem?_getD, List.getD_eq_getElem?_getD, List.getElem?_append_left h]
theorem B_app_right (a b : List UInt8) (i n : Nat) (hn : a.length = n) (h : n ≤ i) : B (a ++ b) i = B b (i - n) := by
  subst hn
  unfold B
  rw [List.getD_eq_getElem?_getD, List.getD_eq_getElem?_getD, List.getElem?_append_right h]
theorem v7_var (x : List UInt8) (N : Nat) (hx : 16 ≤ x.length) : variantN (B (v7L x N) 8) = 1 := by
  have e : B (v7L x N) 8 = B x 8 % 64 + 128 := by
    rw [v7L, B_app_right _ _ 8 8 (v7Head_length _ _) (Nat.le_refl _)]
    unfold B
    rw [List.getD_eq_getElem?_getD, List.getElem?_drop]
    unfold formL
    rw [List.getElem?_set_self (by simp; omega)]
    have := B_lt x 8
    unfold B at this ⊢
    simp
    omega
  rw [e]
  unfold variantN
  rw [if_pos (by omega)]
theorem nowAt_mono (ts : List Nat) (i : Nat) : ∀ d, nowAt ts i < nowAt ts (i + d + 1)
  | 0 => nowAt_lt ts i
  | d + 1 => Nat.lt_trans (nowAt_mono ts i d) (nowAt_lt ts (i + d + 1))
theorem v7_apart (x : List UInt8) (ts : List Nat) (hx : 16 ≤ x.length) (hts : ∀ t ∈ ts, t ≤ 4102444800000000000) (i j : Nat) (h : i < j) (hj : j ≤ 12) : v7L x (nowAt ts (i + 1)) ≠ v7L x (nowAt ts (j + 1)) := by
  intro e
  have hm := nowAt_mono ts (i + 1) (j - i - 1)
  rw [show i + 1 + (j - i - 1) + 1 = j + 1 by omega] at hm
  have h1 := v7_ascend x _ _ hx hm (by have := nowAt_le ts hts (j + 1); omega)
  rw [(cmpL_zero _ _).2 e] at h1
  omega
theorem be_inj (m a b : Nat) (h : be m a = be m b) : a % 256 ^ m = b % 256 ^ m := by
  rw [← num_be7 m a, ← num_be7 m b, h]
theorem v1L_inj (n1 n2 q1 q2 : Nat) (nd : List UInt8) (h1 : n1 < 1000000000000000000) (h2 : n2 < 1000000000000000000) (hq1 : q1 < 65536) (hq2 : q2 < 65536) (h : v1L n1 q1 nd = v1L n2 q2 nd) : n1 = n2 ∧ q1 = q2 := by
  have p2 : (256 : Nat) ^ 2 = 65536 := by decide
  have p4 : (256 : Nat) ^ 4 = 4294967296 := by decide
  unfold v1L at h
  obtain ⟨h, -⟩ := List.append_inj h (by simp [be_length])
  obtain ⟨h, hq⟩ := List.append_inj h (by simp [be_length])
  obtain ⟨h, hh⟩ := List.append_inj h (by simp [be_length])
  obtain ⟨hl, hm⟩ := List.append_inj h (by simp [be_length])
  have e1 := be_inj _ _ _ hl
  have e2 := be_inj _ _ _ hm
  have e3 := be_inj _ _ _ hh
  have e4 := be_inj _ _ _ hq
  rw [p4] at e1
  rw [p2] at e2 e3 e4
  omega
theorem v1_ver (now q : Nat) (nd : List UInt8) : B (v1L now q nd) 6 / 16 = 1 := by
  have e : B (v1L now q nd) 6 = (now / 281474976710656 % 4096 + 4096) / 256 % 256 := by
    unfold v1L
    rw [B_app_left _ _ _ (by simp [be_length]), B_app_left _ _ _ (by simp [be_length]), B_app_right _ _ 6 6 (by simp [be_length]) (Nat.le_refl _), Nat.sub_self, B_be 2 _ 0 (by decide)]
  rw [e]
  omega
theorem v1_var (now s : Nat) (nd : List UInt8) (hs : s < 16384) : variantN (B (v1L now (s + 32768) nd) 8) = 1 := by
  have e : B (v1L now (s + 32768) nd) 8 = (s + 32768) / 256 % 256 := by
    unfold v1L
    rw [B_app_left _ _ _ (by simp [be_length]), B_app_right _ _ 8 8 (by simp [be_length]) (Nat.le_refl _), Nat.sub_self, B_be 2 _ 0 (by decide)]
  rw [e]
  unfold variantN
  rw [if_pos (by omega)]
/-- How the sequence goes on. -/
theorem seq_runs (r0 r1 : UInt8) (ts : List Nat) (i : Nat) : ∀ d, ∃ c, c ≤ d ∧ sAt r0 r1 ts (i + d + 1) = (sAt r0 r1 ts (i + 1) + c) % 16384 ∧ (c = 0 → stampOf (ts.getD i 0) + d ≤ stampOf (ts.getD (i + d) 0))
  | 0 => by
    have h1 := sAt_lt r0 r1 ts (i + 1)
    refine ⟨0, Nat.le_refl _, ?_, fun _ => ?_⟩
    · rw [Nat.add_zero i, Nat.add_zero (sAt r0 r1 ts (i + 1)), Nat.mod_eq_of_lt h1]
    · rw [Nat.add_zero, Nat.add_zero]
      exact Nat.le_refl _
  | d + 1 => by
    obtain ⟨c, hc, hs, h0⟩ := seq_runs r0 r1 ts i d
    have e : sAt r0 r1 ts (i + (d + 1) + 1) = seqNext (ltAt ts (i + d + 1)) (stampOf (ts.getD (i + d + 1) 0)) (sAt r0 r1 ts (i + d + 1)) := by
      rw [show i + (d + 1) + 1 = (i + d + 1) + 1 by omega, sAt, if_neg (by omega)]
    have el : ltAt ts (i + d + 1) = stampOf (ts.getD (i + d) 0) := by rw [ltAt]
    rw [e, el, hs]
    rw [show i + (d + 1) = i + d + 1 by omega]
    unfold seqNext
    by_cases hle : stampOf (ts.getD (i + d + 1) 0) ≤ stampOf (ts.getD (i + d) 0)
    · rw [if_pos hle]
      exact ⟨c + 1, by omega, by omega, fun h => by omega⟩
    · rw [if_neg hle]
      exact ⟨c, by omega, rfl, fun h => by have := h0 h; omega⟩
theorem v1_apart (r0 r1 : UInt8) (nd : List UInt8) (ts : List Nat) (hts : ∀ t ∈ ts, t ≤ 4102444800000000000) (i j : Nat) (h : i < j) (hj : j ≤ 12) : v1L (stampOf (ts.getD i 0)) (csAt r0 r1 ts (i + 1)) nd ≠ v1L (stampOf (ts.getD j 0)) (csAt r0 r1 ts (j + 1)) nd := by
  intro e
  have hi := sAt_lt r0 r1 ts (i + 1)
  have hj' := sAt_lt r0 r1 ts (j + 1)
  have ei : csAt r0 r1 ts (i + 1) = sAt r0 r1 ts (i + 1) + 32768 := by simp [csAt]
  have ej : csAt r0 r1 ts (j + 1) = sAt r0 r1 ts (j + 1) + 32768 := by simp [csAt]
  rw [ei, ej] at e
  obtain ⟨e1, e2⟩ := v1L_inj _ _ _ _ nd (stampOf_lt _ (getD_le ts hts i)) (stampOf_lt _ (getD_le ts hts j)) (by omega) (by omega) e
  obtain ⟨c, hc, hs, h0⟩ := seq_runs r0 r1 ts i (j - i)
  rw [show i + (j - i) = j by omega] at hs h0
  by_cases hz : c = 0
  · have := h0 hz
    omega
  · omega
end Go.Proofs.Ytbnkbgbgdolihaa
