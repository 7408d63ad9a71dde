/- Words for byte slices, plain comparison of lists of bytes, and the contracts of spec.Sign, spec.Compare, spec.Same. -/
import Derived.Test.YtbacbgicfomkbaaRows
import Derived.WalkKit
import Derived.BigQuiet
import Derived.Deep.QuietTactic
import Derived.Lib.Hide
namespace Go.Proofs.Ytbacbgicfomkbaa
open Go.RowKit

/-- The byte at a place, as a number. -/
def B (bs : List UInt8) (i : Nat) : Nat := (bs.getD i 0).toNat
theorem B_lt (bs : List UInt8) (i : Nat) : B bs i < 256 := UInt8.toNat_lt _

/-- The cells of a byte slice, as far as it is read. -/
def Rd (w : World) (a : Option Addr) (bs : List UInt8) : Prop :=
  bs.length ≤ 9223372036854775807 ∧ (bs = [] ∨ ∃ b off, a = some ⟨b, off, none⟩ ∧ ∀ i, i < bs.length → w.cell? ⟨b, off + i, none⟩ = some (.int .u8 (B bs i)))

def signI (n : Int) : Int := if n < 0 then -1 else if 0 < n then 1 else 0

def cmpL : List UInt8 → List UInt8 → Int
  | [], [] => 0
  | [], _ :: _ => -1
  | _ :: _, [] => 1
  | a :: u, b :: v => if a = b then cmpL u v else if a < b then -1 else 1

theorem cmpL_eq : ∀ (x y : List UInt8) (k : Nat), k < x.length → k < y.length → x.take k = y.take k → B x k ≠ B y k →
    cmpL x y = if B x k < B y k then -1 else 1
  | a :: u, b :: v, 0, _, _, _, h => by
    have h' : ¬ a = b := by intro e; simp [e, B] at h
    simp [cmpL, h', UInt8.lt_iff_toNat_lt, B]
  | a :: u, b :: v, k + 1, h1, h2, ht, h => by
    simp only [List.take_succ_cons, List.cons.injEq] at ht
    have := cmpL_eq u v k (by simpa using h1) (by simpa using h2) ht.2 (by simpa [B] using h)
    simp only [cmpL, ht.1, if_true, this]
    simp [B]

theorem cmpL_end : ∀ (x y : List UInt8) (k : Nat), (k = x.length ∨ k = y.length) → x.take k = y.take k → cmpL x y = signI ((x.length : Int) - (y.length : Int))
  | [], [], _, _, _ => by simp [cmpL, signI]
  | [], b :: v, _, _, _ => by simp only [cmpL, signI, List.length_nil, List.length_cons]; rw [if_pos (by omega)]
  | a :: u, [], _, _, _ => by simp only [cmpL, signI, List.length_nil, List.length_cons]; rw [if_neg (by omega), if_pos (by omega)]
  | a :: u, b :: v, 0, h, _ => by simp at h
  | a :: u, b :: v, k + 1, h, ht => by
    simp only [List.take_succ_cons, List.cons.injEq] at ht
    have := cmpL_end u v k (by simpa using h) ht.2
    simp only [cmpL, ht.1, if_true, this, List.length_cons]
    congr 1; omega

theorem ret_i64 {a b : Int} (h : a = b) : Ending.returned (.int .i64 a) = .returned (.int .i64 b) := by rw [h]

theorem take_snoc_eq {x y : List UInt8} {k : Nat} (h1 : k < x.length) (h2 : k < y.length) (h : x.take k = y.take k) (e : B x k = B y k) : x.take (k + 1) = y.take (k + 1) := by
  rw [List.take_succ_eq_append_getElem h1, List.take_succ_eq_append_getElem h2, h]
  have : x[k] = y[k] := by simpa [B, h1, h2, UInt8.toNat_inj] using e
  rw [this]

theorem neb_of {a b : Nat} (h : a = b) : ((a : Int) != (b : Int)) = false := by simp [h]
theorem neb_ne {a b : Nat} (h : ¬ a = b) : ((a : Int) != (b : Int)) = true := by rw [bne_iff_ne]; omega
theorem eqb_of {a b : Nat} (h : a = b) : ((a : Int) == (b : Int)) = true := by simp [h]
theorem eqb_ne {a b : Nat} (h : ¬ a = b) : ((a : Int) == (b : Int)) = false := by rw [beq_eq_false_iff_ne]; omega

theorem sign_any (n : Int) (w : World) :
    Calls Try.prog 26 #[.int .i64 n] w fun e w' => e = .returned (.int .i64 (signI n)) ∧ w = w' := by
  by_cases h1 : n < 0
  · go_enter Try.func26, Try.ntmps26
    go_wp2
    go_ret
    exact ⟨by simp [signI, h1], rfl⟩
  · by_cases h2 : 0 < n
    · go_enter Try.func26, Try.ntmps26
      go_wp2
      go_ret
      exact ⟨ret_i64 (by unfold signI; rw [if_neg (by omega), if_pos h2]), rfl⟩
    · go_enter Try.func26, Try.ntmps26
      go_wp2
      go_ret
      exact ⟨ret_i64 (by unfold signI; rw [if_neg (by omega), if_neg (by omega)]), rfl⟩

theorem compare_any (a1 a2 : Option Addr) (x y : List UInt8) (c1 c2 : Nat) (w : World) (h1 : Rd w a1 x) (h2 : Rd w a2 y) :
    Calls Try.prog 27 #[.slice a1 x.length c1, .slice a2 y.length c2] w fun e w' => e = .returned (.int .i64 (cmpL x y)) ∧ ∃ n, w' = w.drewN n := by
  obtain ⟨l1, h1⟩ := h1
  obtain ⟨l2, h2⟩ := h2
  go_enter Try.func27, Try.ntmps27
  go_wp2
  go_loopw [5] (fun i wr => ∃ k : Nat, k ≤ x.length ∧ k ≤ y.length ∧ i = .int .i64 k ∧ x.take k = y.take k ∧ ∃ n, wr = w.drewN n) (fun i _ => x.length - (intOf i).toNat)
  case atStart => exact ⟨0, by omega, by omega, rfl, by simp, 0, rfl⟩
  case round =>
    obtain ⟨k, hk1, hk2, rfl, hT, n, rfl⟩ := hrel
    by_cases hlt : k < x.length ∧ k < y.length
    · obtain ⟨hx, hy⟩ := hlt
      obtain ⟨b1, o1, rfl, g1⟩ := h1.resolve_left (by intro h; simp [h] at hx)
      obtain ⟨b2, o2, rfl, g2⟩ := h2.resolve_left (by intro h; simp [h] at hy)
      have c1 := g1 k hx
      have c2 := g2 k hy
      clear g1 g2 h1 h2
      by_cases he : B x k = B y k
      · have ht := take_snoc_eq hx hy hT he
        have hne : ((B x k : Int) != (B y k : Int)) = false := neb_of he
        have HT := Lib.hid ht
        clear he ht hT
        go_wp2
        go_quiet (fail)
        go_wp2
        go_roundw
        case rel => exact ⟨k + 1, by omega, by omega, by go_num, HT.out, _, rfl⟩
        case measure => simp [intOf]; omega
      · have hc := cmpL_eq x y k hx hy hT he
        have hne : ((B x k : Int) != (B y k : Int)) = true := neb_ne he
        have HC := Lib.hid hc
        clear hT hc
        by_cases hl : B x k < B y k
        · go_wp2
          go_quiet (fail)
          go_wp2
          go_quiet (fail)
          go_wp2
          go_ret
          exact ⟨ret_i64 (by rw [HC.out, if_pos hl]), _, by simp only [World.drewN_drewN]; rfl⟩
        · go_wp2
          go_quiet (fail)
          go_wp2
          go_quiet (fail)
          go_wp2
          go_ret
          exact ⟨ret_i64 (by rw [HC.out, if_neg (by omega)]), _, by simp only [World.drewN_drewN]; rfl⟩
    · have hend := cmpL_end x y k (by omega) hT
      have HE := Lib.hid hend
      clear hend hT
      by_cases hx : k < x.length
      all_goals
        go_wp2_with (go_at_call 26; refine (sign_any _ _).mono ?_; rintro e w' ⟨rfl, rfl⟩)
        go_ret
        exact ⟨ret_i64 HE.out.symm, _, rfl⟩
end Go.Proofs.Ytbacbgicfomkbaa
