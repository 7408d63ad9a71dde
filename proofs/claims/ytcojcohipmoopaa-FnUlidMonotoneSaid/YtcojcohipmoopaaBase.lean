/- Words for byte slices, plain comparison of lists of bytes, and the contracts of spec.Sign, spec.Compare, spec.Same. -/
import Derived.Test.YtcojcohipmoopaaRows
import Derived.WalkKit
import Derived.BigQuiet
import Derived.Deep.QuietTactic
import Derived.Lib.Hide
namespace Go.Proofs.Ytcojcohipmoopaa
open Go.RowKit

/-- The byte at a place, as a number. -/
def B (bs : List UInt8) (i : Nat) : Nat := (bs.getD i 0).toNat
theorem B_lt (bs : List UInt8) (i : Nat) : B bs i < 256 := UInt8.toNat_lt _

/-- The cells of a byte slice, as far as it is read. -/
def Rd (w : World) (a : Option Addr) (bs : List UInt8) : Prop :=
  bs.length ≤ 9223372036854775807 ∧ (bs = [] ∨ ∃ b off, a = some ⟨b, off, none⟩ ∧ ∀ i, i < bs.length → w.cell? ⟨b, off + i, none⟩ = some (.int .u8 (B bs i)))

def signI (n : Int) : Int := if n < 0 then -1 else if 0 < n then 1 else 0

def cmpL : List UInt8 → List UInt8 → Int
  | [], [] => 0
  | [], _ :: _ => -1
  | _ :: _, [] => 1
  | a :: u, b :: v => if a = b then cmpL u v else if a < b then -1 else 1

theorem cmpL_eq : ∀ (x y : List UInt8) (k : Nat), k < x.length → k < y.length → x.take k = y.take k → B x k ≠ B y k →
    cmpL x y = if B x k < B y k then -1 else 1
  | a :: u, b :: v, 0, _, _, _, h => by
    have h' : ¬ a = b := by intro e; simp [e, B] at h
    simp [cmpL, h', UInt8.lt_iff_toNat_lt, B]
  | a :: u, b :: v, k + 1, h1, h2, ht, h => by
    simp only [List.take_succ_cons, List.cons.injEq] at ht
    have := cmpL_eq u v k (by simpa using h1) (by simpa using h2) ht.2 (by simpa [B] using h)
    simp only [cmpL, ht.1, if_true, this]
    simp [B]

theorem cmpL_end : ∀ (x y : List UInt8) (k : Nat), (k = x.length ∨ k = y.length) → x.take k = y.take k → cmpL x y = signI ((x.length : Int) - (y.length : Int))
  | [], [], _, _, _ => by simp [cmpL, signI]
  | [], b :: v, _, _, _ => by simp only [cmpL, signI, List.length_nil, List.length_cons]; rw [if_pos (by omega)]
  | a :: u, [], _, _, _ => by simp only [cmpL, signI, List.length_nil, List.length_cons]; rw [if_neg (by omega), if_pos (by omega)]
  | a :: u, b :: v, 0, h, _ => by simp at h
  | a :: u, b :: v, k + 1, h, ht => by
    simp only [List.take_succ_cons, List.cons.injEq] at ht
    have := cmpL_end u v k (by simpa using h) ht.2
    simp only [cmpL, ht.1, if_true, this, List.length_cons]
    congr 1; omega

theorem ret_i64 {a b : Int} (h : a = b) : Ending.returned (.int .i64 a) = .returned (.int .i64 b) := by rw [h]

theorem take_snoc_eq {x y : List UInt8} {k : Nat} (h1 : k < x.length) (h2 : k < y.length) (h : x.take k = y.take k) (e : B x k = B y k) : x.take (k + 1) = y.take (k + 1) := by
  rw [List.take_succ_eq_append_getElem h1, List.take_succ_eq_append_getElem h2, h]
  have : x[k] = y[k] := by simpa [B, h1, h2, UInt8.toNat_inj] using e
  rw [this]

theorem neb_of {a b : Nat} (h : a = b) : ((a : Int) != (b : Int)) = false := by simp [h]
theorem neb_ne {a b : Nat} (h : ¬ a = b) : ((a : Int) != (b : Int)) = true := by rw [bne_iff_ne]; omega
theorem eqb_of {a b : Nat} (h : a = b) : ((a : Int) == (b : Int)) = true := by simp [h]
theorem eqb_ne {a b : Nat} (h : ¬ a = b) : ((a : Int) == (b : Int)) = false := by rw [beq_eq_false_iff_ne]; omega

end Go.Proofs.Ytcojcohipmoopaa
