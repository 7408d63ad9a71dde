/- Hexadecimal text: the plain words, encoding/hex.Encode, and a UUID's String and URN. -/
import Derived.Test.YtdjppileeeljnaaDoorUuidForm
namespace Go.Proofs.YtdjppileeeljnaaDoor
open Go.RowKit

def d16 : List UInt8 := [48, 49, 50, 51, 52, 53, 54, 55, 56, 57, 97, 98, 99, 100, 101, 102]
/-- The two digits of a byte. -/
def hex2 (b : UInt8) : List UInt8 := [d16.getD (b.toNat / 16) 0, d16.getD (b.toNat % 16) 0]
/-- The digits of bytes. -/
def hexL (x : List UInt8) : List UInt8 := x.flatMap hex2
theorem hexL_length (x : List UInt8) : (hexL x).length = 2 * x.length := by
  induction x with
  | nil => rfl
  | cons b x ih => simp [hexL, List.flatMap_cons, hex2] at ih ⊢; omega
theorem hexL_append (x y : List UInt8) : hexL (x ++ y) = hexL x ++ hexL y := by simp [hexL]
theorem writ_snoc (dl : List UInt8) (m N : Nat) : writ dl (m + 1) N = writ dl m (N / dl.length) ++ [dl.getD (N % dl.length) 0] := by
  unfold writ
  rw [List.range_succ, List.map_append]
  congr 1
  · apply List.map_congr_left
    intro i hi
    rw [List.mem_range] at hi
    rw [Nat.div_div_eq_div_mul, ← Nat.pow_succ', show m + 1 - 1 - i = (m - 1 - i).succ by omega]
  · simp
/-- The digits of 16 of the number that bytes are. -/
theorem writ_hex (x : List UInt8) : writ d16 (2 * x.length) (num x) = hexL x := by
  suffices h : ∀ (l : List UInt8), writ d16 (2 * l.reverse.length) (num l.reverse) = hexL l.reverse by simpa using h x.reverse
  intro l
  induction l with
  | nil => rfl
  | cons b l ih =>
    have hb := b.toNat_lt
    have e : num (l.reverse ++ [b]) = num l.reverse * 256 + b.toNat := by simp [num]
    rw [List.reverse_cons, hexL_append, List.length_append, List.length_singleton, e, show 2 * (l.reverse.length + 1) = (2 * l.reverse.length + 1) + 1 by omega, writ_snoc, writ_snoc]
    have e1 : (num l.reverse * 256 + b.toNat) / d16.length / d16.length = num l.reverse := by
      rw [show d16.length = 16 from rfl]; omega
    have e2 : (num l.reverse * 256 + b.toNat) / d16.length % d16.length = b.toNat / 16 := by
      rw [show d16.length = 16 from rfl]; omega
    have e3 : (num l.reverse * 256 + b.toNat) % d16.length = b.toNat % 16 := by
      rw [show d16.length = 16 from rfl]; omega
    rw [e1, e2, e3, ih, List.append_assoc]
    simp [hexL, hex2]
/-- The text of a UUID. -/
def utext (x : List UInt8) : List UInt8 := hexL (x.take 4) ++ (45 :: (hexL ((x.drop 4).take 2) ++ (45 :: (hexL ((x.drop 6).take 2) ++ (45 :: (hexL ((x.drop 8).take 2) ++ (45 :: hexL (x.drop 10))))))))
theorem hexL_cons (b : UInt8) (x : List UInt8) : hexL (b :: x) = d16.getD (b.toNat / 16) 0 :: d16.getD (b.toNat % 16) 0 :: hexL x := rfl
theorem hexL_get : ∀ (x : List UInt8) (k : Nat), k < x.length → B (hexL x) (2 * k) = (d16.getD (B x k / 16) 0).toNat ∧ B (hexL x) (2 * k + 1) = (d16.getD (B x k % 16) 0).toNat
  | [], k, h => by simp at h
  | b :: x, 0, _ => by rw [hexL_cons]; simp [B]
  | b :: x, k + 1, h => by
    have := hexL_get x k (by simpa using h)
    rw [hexL_cons]
    have e1 : 2 * (k + 1) = 2 * k + 1 + 1 := by omega
    have e2 : 2 * (k + 1) + 1 = 2 * k + 1 + 1 + 1 := by omega
    simp only [B] at this ⊢
    rw [e1]
    simpa using this
/-- A piece laid behind a piece. -/
theorem splice_next {α : Type} (L l m : List α) (off i : Nat) (hi : off + l.length = i) (h : i + m.length ≤ L.length) : splice (splice L off l) i m = splice L off (l ++ m) := by
  subst hi
  have h1 : (L.take off ++ l).length = off + l.length := by rw [List.length_append, List.length_take]; omega
  have e1 : (splice L off l).take (off + l.length) = L.take off ++ l := by
    rw [splice, ← List.append_assoc, List.take_left' h1]
  have e2 : (splice L off l).drop (off + l.length + m.length) = L.drop (off + (l ++ m).length) := by
    rw [splice, ← List.append_assoc, List.drop_append, h1, List.drop_of_length_le (by omega), List.nil_append, List.drop_drop, List.length_append]
    congr 1
    omega
  rw [splice, e1, e2, splice, List.append_assoc, List.append_assoc]
theorem splice_put {α : Type} (L l : List α) (off i : Nat) (v : α) (hi : off + l.length = i) (h : i < L.length) : (splice L off l).set i v = splice L off (l ++ [v]) := by
  rw [← splice_next L l [v] off i hi (by simp; omega)]
  have hl : (splice L off l).length = L.length := by simp [splice]; omega
  generalize splice L off l = M at *
  rw [List.set_eq_take_append_cons_drop, if_pos (by rw [hl]; exact h)]
  simp [splice]
end Go.Proofs.YtdjppileeeljnaaDoor
