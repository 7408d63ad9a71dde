/- SHA-1, plainly: what a digest holds behind the bytes that it was given, piece by piece. -/
import Derived.Test.YtjmmkjdlkecmhaaShaBlk
import Derived.Test.YtjmmkjdlkecmhaaFeed
namespace Go.Proofs.Ytjmmkjdlkecmhaa
open Go.RowKit
set_option linter.unusedVariables false
set_option linter.unusedSimpArgs false
theorem blks_add : ∀ (a b : Nat) (h : Hs) (u v : List UInt8), u.length = 64 * a → blks (a + b) h (u ++ v) = blks b (blks a h u) v
  | 0, b, h, u, v, hu => by
    obtain rfl : u = [] := List.eq_nil_of_length_eq_zero (by omega)
    rw [Nat.zero_add]; rfl
  | a + 1, b, h, u, v, hu => by
    have h1 : (u ++ v).take 64 = u.take 64 := List.take_append_of_le_length (by omega)
    have h2 : (u ++ v).drop 64 = u.drop 64 ++ v := List.drop_append_of_le_length (by omega)
    rw [show a + 1 + b = (a + b) + 1 by omega]
    show blks (a + b) (blk h ((u ++ v).take 64)) ((u ++ v).drop 64) = blks b (blks a (blk h (u.take 64)) (u.drop 64)) v
    rw [h1, h2]
    exact blks_add a b _ _ _ (by rw [List.length_drop]; omega)
def H0 : Hs := ⟨1732584193, 4023233417, 2562383102, 271733878, 3285377520⟩
def sums (m : List UInt8) : Hs := blks (m.length / 64) H0 m
theorem sums_app (m p : List UInt8) (hm : m.length % 64 = 0) : sums (m ++ p) = blks (p.length / 64) (sums m) p := by
  unfold sums
  rw [List.length_append, show (m.length + p.length) / 64 = m.length / 64 + p.length / 64 by omega]
  exact blks_add _ _ _ _ _ (by omega)
theorem sums_less (m p : List UInt8) (h : m.length % 64 + p.length < 64) : sums (m ++ p) = sums m := by
  unfold sums
  rw [List.length_append, show (m.length + p.length) / 64 = m.length / 64 by omega]
  have e : m ++ p = m.take (64 * (m.length / 64)) ++ (m.drop (64 * (m.length / 64)) ++ p) := by rw [← List.append_assoc, List.take_append_drop]
  have hl : (m.take (64 * (m.length / 64))).length = 64 * (m.length / 64) := by rw [List.length_take]; omega
  rw [e]
  have h1 := blks_add (m.length / 64) 0 H0 (m.take (64 * (m.length / 64))) (m.drop (64 * (m.length / 64)) ++ p) hl
  have h2 := blks_add (m.length / 64) 0 H0 (m.take (64 * (m.length / 64))) (m.drop (64 * (m.length / 64))) hl
  rw [List.take_append_drop] at h2
  rw [Nat.add_zero] at h1 h2
  rw [h1, h2]
  rfl
theorem sums_fill (m p : List UInt8) (h : m.length % 64 + p.length = 64) : sums (m ++ p) = blks 1 (sums m) (m.drop (m.length / 64 * 64) ++ p) := by
  have e : m ++ p = m.take (m.length / 64 * 64) ++ (m.drop (m.length / 64 * 64) ++ p) := by rw [← List.append_assoc, List.take_append_drop]
  have hl : (m.take (m.length / 64 * 64)).length = m.length / 64 * 64 := by rw [List.length_take]; omega
  have e2 : sums m = sums (m.take (m.length / 64 * 64)) := by
    have := sums_less (m.take (m.length / 64 * 64)) (m.drop (m.length / 64 * 64)) (by rw [hl, List.length_drop]; omega)
    rw [List.take_append_drop] at this
    exact this
  rw [e, sums_app _ _ (by rw [hl]; omega), ← e2, show (m.drop (m.length / 64 * 64) ++ p).length / 64 = 1 by rw [List.length_append, List.length_drop]; omega]
/-- The cells of a digest. -/
def dcells (h : Hs) (x : List UInt8) (nx len : Nat) : List Value := hcells h ++ (bvs x ++ [.int .i64 ((nx : Nat) : Int), .int .u64 ((len : Nat) : Int)])
theorem dcells_length {h : Hs} {x : List UInt8} {nx len : Nat} (hx : x.length = 64) : (dcells h x nx len).length = 71 := by simp [dcells, hcells, bvs_length, hx]
theorem dcells_nx {h : Hs} {x : List UInt8} {nx len : Nat} (hx : x.length = 64) : (dcells h x nx len)[69]? = some (.int .i64 ((nx : Nat) : Int)) := by
  have hb : (bvs x).length = 64 := by rw [bvs_length, hx]
  unfold dcells
  rw [List.getElem?_append_right (by simp [hcells]), List.getElem?_append_right (by rw [hb]; exact Nat.le_of_ble_eq_true rfl), hb]
  rfl
theorem dcells_len {h : Hs} {x : List UInt8} {nx len : Nat} (hx : x.length = 64) : (dcells h x nx len)[70]? = some (.int .u64 ((len : Nat) : Int)) := by
  have hb : (bvs x).length = 64 := by rw [bvs_length, hx]
  unfold dcells
  rw [List.getElem?_append_right (by simp [hcells]), List.getElem?_append_right (by rw [hb]; exact Nat.le_of_ble_eq_true rfl), hb]
  rfl
theorem dcells_setnx {h : Hs} {x : List UInt8} {nx len : Nat} (hx : x.length = 64) (k : Nat) : (dcells h x nx len).set 69 (.int .i64 ((k : Nat) : Int)) = dcells h x k len := by
  have hb : (bvs x).length = 64 := by rw [bvs_length, hx]
  unfold dcells
  rw [List.set_append_right _ _ (by simp [hcells]), List.set_append_right _ _ (by rw [hb]; exact Nat.le_of_ble_eq_true rfl), hb]
  rfl
theorem dcells_setlen {h : Hs} {x : List UInt8} {nx len : Nat} (hx : x.length = 64) (k : Nat) : (dcells h x nx len).set 70 (.int .u64 ((k : Nat) : Int)) = dcells h x nx k := by
  have hb : (bvs x).length = 64 := by rw [bvs_length, hx]
  unfold dcells
  rw [List.set_append_right _ _ (by simp [hcells]), List.set_append_right _ _ (by rw [hb]; exact Nat.le_of_ble_eq_true rfl), hb]
  rfl
theorem dcells_x {w : World} {g : Nat} {h : Hs} {x : List UInt8} {nx len : Nat} {t : TypeId} (hg : Blk w g (dcells h x nx len) t) (hx : x.length = 64) : Rd w (some ⟨g, 5, none⟩) x := by
  refine ⟨by omega, .inr ⟨g, 5, rfl, fun i hi => ?_⟩⟩
  rw [hg.cell]
  unfold dcells
  rw [List.getElem?_append_right (by simp [hcells]), show 5 + i - (hcells h).length = i by simp [hcells], List.getElem?_append_left (by rw [bvs_length]; exact hi), bvs_get x i hi]
theorem dcells_splice {h : Hs} {x : List UInt8} {nx len : Nat} (hx : x.length = 64) (r : Nat) (q : List UInt8) (hq : r + q.length ≤ 64) : splice (dcells h x nx len) (5 + r) (bvs q) = dcells h (x.take r ++ q ++ x.drop (r + q.length)) nx len := by
  have hb : (bvs x).length = 64 := by rw [bvs_length, hx]
  have h5 : (hcells h).length = 5 := rfl
  unfold dcells splice
  rw [bvs_length, show 5 + r + q.length = 5 + (r + q.length) by omega]
  rw [List.take_append, List.drop_append, h5, show 5 + r - 5 = r by omega, show 5 + (r + q.length) - 5 = r + q.length by omega, List.take_of_length_le (by rw [h5]; omega), List.drop_of_length_le (by rw [h5]; omega), List.nil_append]
  rw [List.take_append_of_le_length (by omega), List.drop_append_of_le_length (by omega)]
  simp [bvs, List.append_assoc]
/-- What a digest holds behind the bytes m. -/
def Dg (w : World) (g : Nat) (m : List UInt8) (len : Nat) (t : TypeId) : Prop :=
  ∃ x : List UInt8, x.length = 64 ∧ x.take (m.length % 64) = m.drop (m.length / 64 * 64) ∧ Blk w g (dcells (sums m) x (m.length % 64) len) t
theorem andNot63 (n : Nat) (h : n < 9223372036854775808) : bits .andNot .i64 (n : Int) 63 = ((n / 64 * 64 : Nat) : Int) := by
  have e : bits .andNot .i64 (n : Int) 63 = IntKind.i64.wrap ((BitVec.ofInt 64 n &&& ~~~ BitVec.ofInt 64 63).toNat : Nat) := rfl
  have h1 : BitVec.ofInt 64 (n : Int) = BitVec.ofNat 64 n := by simp
  have key : (BitVec.ofNat 64 n &&& ~~~ (BitVec.ofInt 64 63)) = (BitVec.ofNat 64 n >>> 6) <<< 6 := by
    apply BitVec.eq_of_getLsbD_eq
    intro i hi
    have h63 : BitVec.ofInt 64 63 = (BitVec.ofNat 64 63) := by decide
    rw [h63]
    simp only [BitVec.getLsbD_and, BitVec.getLsbD_not, BitVec.getLsbD_shiftLeft, BitVec.getLsbD_ushiftRight, BitVec.getLsbD_ofNat]
    by_cases h6 : i < 6
    · have : i = 0 ∨ i = 1 ∨ i = 2 ∨ i = 3 ∨ i = 4 ∨ i = 5 := by omega
      rcases this with rfl | rfl | rfl | rfl | rfl | rfl <;> simp <;> (try (intro _; decide))
    · have h63f : (63 : Nat).testBit i = false := Nat.testBit_lt_two_pow (Nat.lt_of_lt_of_le (by decide : 63 < 2 ^ 6) (Nat.pow_le_pow_right (by decide) (by omega)))
      simp [h6, h63f, show 6 + (i - 6) = i by omega, hi]
  rw [e, h1, key, IntKind.wrap_i64]
  have hv : ((BitVec.ofNat 64 n >>> 6) <<< 6).toNat = n / 64 * 64 := by
    rw [BitVec.toNat_shiftLeft, BitVec.toNat_ushiftRight, BitVec.toNat_ofNat, Nat.mod_eq_of_lt (by omega), Nat.shiftRight_eq_div_pow, Nat.shiftLeft_eq]
    omega
  rw [hv]
  omega
theorem block_ok (g : Nat) (hh : Hs) (more : List Value) (t : TypeId) (m : Nat) (ad : Option Addr) (p : List UInt8) (c n : Nat) (w : World) (hg : Blk w g (hcells hh ++ more) t) (hr : Rd w ad p) (hl : p.length = n) (hn : n = 64 * m) (hc : n ≤ c) :
    Calls Try.prog 17 #[.pointer (some ⟨g, 0, none⟩), .slice ad n c] w fun e w' => e = .returned (.tuple #[]) ∧ Blk w' g (hcells (blks m hh p) ++ more) t ∧ w.grownBy w' (some g) := by
  subst hn
  have HL := Lib.hid hl
  clear hl
  go_enter Try.func17, Try.ntmps17
  go_wp2_with (go_at_call 22; refine (block_generic g hh more t m ad p c _ hg hr HL.out hc).mono ?_; rintro e w' ⟨rfl, h1, h2⟩)
  go_end0
  exact ⟨rfl, h1, h2⟩
section
variable {a : Act} {w : World} {o : Oper} {x y : Operand}
theorem do_xfrom (ho : o.op = .slice 45 x (some y) none none) {g k r : Nat} (hx : a.eval x = .pointer (some ⟨g, k, none⟩)) (hy : a.eval y = .int .i64 (r : Int)) (hr : r < 64) : (execOp a.eval o).run Try.prog w = .ok (.value (.slice (some ⟨g, k + r, none⟩) (64 - r) (64 - r))) w := by
  have h1 : ¬ r = 64 := by omega
  have h2 : r ≤ 64 := by omega
  have h3 : ¬ 64 = r := by omega
  have h4 : (0 : Int) ≤ (r : Int) := by omega
  have h5 : (r : Int) ≤ 64 := by omega
  have e : (some y).map a.eval = some (.int .i64 (r : Int)) := by simp [hy]
  unfold execOp
  simp only [ho, hx, e]
  go_simp
theorem do_xall (ho : o.op = .slice 45 x none none none) {g k : Nat} (hx : a.eval x = .pointer (some ⟨g, k, none⟩)) : (execOp a.eval o).run Try.prog w = .ok (.value (.slice (some ⟨g, k, none⟩) 64 64)) w := by
  unfold execOp
  simp only [ho, hx]
  go_simp
theorem do_an63 {u : TypeId} (ho : o.op = .binOp .andNot 3 x (.const (.int .i64 63)) u) {n : Nat} (hx : a.eval x = .int .i64 (n : Int)) (hn : n < 9223372036854775808) : (execOp a.eval o).run Try.prog w = .ok (.value (.int .i64 ((n / 64 * 64 : Nat) : Int))) w := by
  have hc : a.eval (.const (.int .i64 63)) = .int .i64 63 := rfl
  have e := andNot63 n hn
  unfold execOp
  simp only [ho, hx, hc]
  go_simp
end
end Go.Proofs.Ytjmmkjdlkecmhaa
