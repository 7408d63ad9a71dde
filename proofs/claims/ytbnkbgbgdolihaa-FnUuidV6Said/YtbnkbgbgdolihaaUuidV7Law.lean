/- The plain law of UUIDs of version 7: they ascend, and end with the bytes that were read. -/
import Derived.Test.YtbnkbgbgdolihaaClock7
namespace Go.Proofs.Ytbnkbgbgdolihaa
open Go.RowKit
set_option linter.unusedVariables false
theorem num_be7 : ∀ (m n : Nat), num (be m n) = n % 256 ^ m
  | 0, n => by simp [be, num, Nat.mod_one]
  | m + 1, n => by
    have h1 : num [UInt8.ofNat n] = n % 256 := by simp [num]
    rw [be, num_append, num_be7 m, h1, List.length_singleton, Nat.pow_one, Nat.pow_succ, Nat.mul_comm (256 ^ m), Nat.mod_mul]
    omega
theorem cmpL_num (x y : List UInt8) (h : x.length = y.length) : cmpL x y = signI ((num x : Int) - (num y : Int)) := by
  have h1 := cmp_writ dall (by rw [dall_length]; decide) dall_mono x.length (num x) (num y)
  have e1 := writ_dall x
  have e2 := writ_dall y
  rw [← h] at e2
  rw [e1, e2, dall_length, Nat.mod_eq_of_lt (num_lt x), Nat.mod_eq_of_lt (by have := num_lt y; rwa [← h] at this)] at h1
  exact h1
theorem num_v7Head (m s : Nat) (hm : m < 281474976710656) (hs : s < 4096) : num (v7Head m s) = m * 65536 + 28672 + s := by
  have h2 : num [UInt8.ofNat (112 + s / 256), UInt8.ofNat s] = (112 + s / 256) * 256 + s % 256 := by
    simp [num]
    omega
  have h3 : [UInt8.ofNat (112 + s / 256), UInt8.ofNat s].length = 2 := rfl
  have h4 : (256 : Nat) ^ 6 = 281474976710656 := by decide
  have h5 : (256 : Nat) ^ 2 = 65536 := by decide
  rw [v7Head, num_append, num_be7, h2, h3, h4, h5, Nat.mod_eq_of_lt hm]
  omega
theorem num_v7 (x : List UInt8) (N : Nat) (hx : 16 ≤ x.length) (hN : N < 1000000000000000000) : num (v7L x N) = (N / 4096 * 65536 + 28672 + N % 4096) * 18446744073709551616 + num ((formL x 4).drop 8) := by
  have hl : ((formL x 4).drop 8).length = 8 := by rw [List.length_drop, formL_length x 4 hx]
  rw [v7L, num_append, hl, num_v7Head _ _ (by omega) (Nat.mod_lt _ (by decide))]
theorem v7_ascend (x : List UInt8) (N M : Nat) (hx : 16 ≤ x.length) (h : N < M) (hM : M < 1000000000000000000) : cmpL (v7L x N) (v7L x M) = -1 := by
  have hl : ((formL x 4).drop 8).length = 8 := by rw [List.length_drop, formL_length x 4 hx]
  have ht := num_lt ((formL x 4).drop 8)
  rw [hl] at ht
  have h8 : (256 : Nat) ^ 8 = 18446744073709551616 := by decide
  rw [h8] at ht
  rw [cmpL_num _ _ (by rw [v7L_length x N hx, v7L_length x M hx]), num_v7 x N hx (by omega), num_v7 x M hx hM]
  unfold signI
  rw [if_pos (by omega)]
theorem v7_drop (x : List UInt8) (N : Nat) (hx : 16 ≤ x.length) : (v7L x N).drop 8 = (formL x 7).drop 8 := by
  rw [v7L, List.drop_left' (v7Head_length _ _)]
  unfold formL
  apply List.ext_getElem?
  intro i
  simp only [List.getElem?_drop, List.getElem?_set, List.length_set, List.length_take]
  have h6 : ¬ 6 = 8 + i := by omega
  rw [if_neg h6, if_neg h6]
theorem still_load_slice {S : World → Prop} {o : Oper} {a : Act} {x : Operand} (ho : o.op = .load 22 x) {ad : Addr} (hx : a.eval x = .pointer (some ad)) {p : Option Addr} {n c : Nat} (hc : ∀ w', S w' → w'.cell? ad = some (.slice p n c)) :
    ∀ w', S w' → (execOp a.eval o).run Try.prog w' = .ok (.value (.slice p n c)) w' := by
  intro w' hS
  have h := hc w' hS
  unfold execOp
  simp only [ho, hx]
  go_simp
theorem nowAt_lt (ts : List Nat) (k : Nat) : nowAt ts k < nowAt ts (k + 1) := next7_gt _ _
end Go.Proofs.Ytbnkbgbgdolihaa
