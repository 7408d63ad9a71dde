/- The plain law of KSUID.Next and Prev: the number of 20 bytes, its parts, and one more or less. -/
import Derived.Test.YtbacbgicfomkbaaMoreLess
import Derived.Test.YtbacbgicfomkbaaU128
import Derived.Test.YtbacbgicfomkbaaKsuidMakeWalk
namespace Go.Proofs.Ytbacbgicfomkbaa
open Go.RowKit

theorem num_parts (x : List UInt8) (hx : x.length = 20) :
    num x = num (x.take 4) * 340282366920938463463374607431768211456 + num ((x.drop 4).take 8) * 18446744073709551616 + num (x.drop 12)
    ∧ num (x.take 4) < 4294967296 ∧ num ((x.drop 4).take 8) < 18446744073709551616 ∧ num (x.drop 12) < 18446744073709551616 := by
  have e : x = x.take 4 ++ ((x.drop 4).take 8 ++ x.drop 12) := by
    have h1 : (x.drop 4).drop 8 = x.drop 12 := by rw [List.drop_drop]
    rw [← h1, List.take_append_drop, List.take_append_drop]
  have l1 : (x.take 4).length = 4 := by simp; omega
  have l2 : ((x.drop 4).take 8).length = 8 := by simp; omega
  have l3 : (x.drop 12).length = 8 := by simp; omega
  have h1 := num_lt (x.take 4)
  have h2 := num_lt ((x.drop 4).take 8)
  have h3 := num_lt (x.drop 12)
  rw [l1] at h1
  rw [l2] at h2
  rw [l3] at h3
  refine ⟨?_, by simpa using h1, by simpa using h2, by simpa using h3⟩
  conv => lhs; rw [e]
  rw [num_append, num_append, List.length_append, l2, l3]
  omega
/-- Three numbers as bytes, and their number. -/
theorem parts_be (T H L : Nat) (hT : T < 4294967296) (hH : H < 18446744073709551616) (hL : L < 18446744073709551616) :
    be 4 T ++ (be 8 H ++ be 8 L) = be 20 (T * 340282366920938463463374607431768211456 + H * 18446744073709551616 + L) := by
  have hl : (be 4 T ++ (be 8 H ++ be 8 L)).length = 20 := by simp [be_length]
  have h := be_num (be 4 T ++ (be 8 H ++ be 8 L))
  rw [hl] at h
  have e1 : T % 256 ^ 4 = T := Nat.mod_eq_of_lt hT
  have e2 : H % 256 ^ 8 = H := Nat.mod_eq_of_lt hH
  have e3 : L % 256 ^ 8 = L := Nat.mod_eq_of_lt hL
  have e : num (be 4 T ++ (be 8 H ++ be 8 L)) = T * 340282366920938463463374607431768211456 + H * 18446744073709551616 + L := by
    rw [num_append, num_append, List.length_append, be_length, be_length, num_be, num_be, num_be, e1, e2, e3]
    omega
  rw [← e]
  exact h.symm
/-- One more, with the carries of the two words and of the time. -/
theorem next_law (x : List UInt8) (hx : x.length = 20) (T H L l h t : Nat) (hT : num (x.take 4) = T) (hH : num ((x.drop 4).take 8) = H) (hL : num (x.drop 12) = L)
    (hl : (L + 1) % 18446744073709551616 = l) (hh : (H + 0 + (L + 1) / 18446744073709551616) % 18446744073709551616 = h)
    (ht : t = if l = 0 ∧ h = 0 then (T + 1) % 4294967296 else T) (hn : num x + 1 < 256 ^ 20) :
    be 4 t ++ (be 8 h ++ be 8 l) = be 20 (num x + 1) := by
  obtain ⟨h0, h1, h2, h3⟩ := num_parts x hx
  rw [hT] at h0 h1
  rw [hH] at h0 h2
  rw [hL] at h0 h3
  have hn' : num x + 1 < 1461501637330902918203684832716283019655932542976 := hn
  rw [h0] at hn'
  have e : T * 340282366920938463463374607431768211456 + H * 18446744073709551616 + L + 1 = t * 340282366920938463463374607431768211456 + h * 18446744073709551616 + l := by
    split at ht <;> omega
  rw [parts_be t h l (by split at ht <;> omega) (by omega) (by omega), h0, e]
theorem prev_law (x : List UInt8) (hx : x.length = 20) (T H L l h t : Nat) (hT : num (x.take 4) = T) (hH : num ((x.drop 4).take 8) = H) (hL : num (x.drop 12) = L)
    (hl : (L + 18446744073709551615) % 18446744073709551616 = l) (hh : (H + 18446744073709551616 - 0 - (if L < 1 then 1 else 0)) % 18446744073709551616 = h)
    (ht : t = if l = 18446744073709551615 ∧ h = 18446744073709551615 then (T + 4294967295) % 4294967296 else T) (hn : 0 < num x) :
    be 4 t ++ (be 8 h ++ be 8 l) = be 20 (num x - 1) := by
  obtain ⟨h0, h1, h2, h3⟩ := num_parts x hx
  rw [hT] at h0 h1
  rw [hH] at h0 h2
  rw [hL] at h0 h3
  rw [h0] at hn
  have e : T * 340282366920938463463374607431768211456 + H * 18446744073709551616 + L - 1 = t * 340282366920938463463374607431768211456 + h * 18446744073709551616 + l := by
    split at ht <;> split at hh <;> omega
  rw [parts_be t h l (by split at ht <;> omega) (by omega) (by omega), h0, e]
end Go.Proofs.Ytbacbgicfomkbaa
